import Derived.Test.YbulkcntwDoorConcat
import Derived.Test.YbulkcntwDoorDel
import Derived.Shelf.Spec.SlicesGrow
import Derived.Shelf.SlicesE.Clone
import Derived.Ground.SlgnProg
import Derived.Shelf.Lay
namespace Go.Proofs.YbulkcntwDoor
open Go.Shelf Go.RowKit Go.Lib Go.Sort
set_option linter.unusedVariables false
set_option linter.unusedSimpArgs false
shelf_lay_g Lays8.n4 Nm8 4 at Ybad 40 as Ybad.growC
shelf_lay_g SlLaysE0.n41 Slgn 41 at Ybad 32 as Ybad.cloneC

theorem zc43 (n : Nat) : (Builtin.zeroCells z43.cells n).size = n * 3 := by
  unfold Builtin.zeroCells
  simp [Value.cells]
theorem grow_any : Grows := fun n W h0 hn => by
  obtain ⟨i0, hii, hiz, his, hib⟩ := info_parts info43
  have h := Any8.slices_Grow_grow Ybad.growC i0 z43 hii hiz (by rw [his]; decide) none 0 0 n [] W (Nat.le_refl _) (by omega) (by rw [hib]; omega) (by omega) (by simp) (fun _ => rfl) (fun a h => by cases h)
  change Calls Ybad.prog 40 _ _ _ at h
  refine h.mono ?_
  rintro e w' ⟨rfl, rfl⟩
  have e43 : Ybad.growC_ren.t 25 = 43 := rfl
  rw [e43]
  have hge := grownCap_ge W (0 + n) 0 43
  have hle := grownCap_le_maxLen W (0 + n) 0 43 (by unfold maxLen; omega)
  refine ⟨_, rfl, ⟨rfl, .inr ⟨W.heap.size, grownCap W (0 + n) 0 43, _, rfl, Nat.le_refl _, heap_alloc_new W.drew _, Nat.zero_le _, hle, ?_, by simp⟩⟩, by simp, ((Below.refl _ _).drew.alloc (Nat.le_refl _) _)⟩
  simp only [Array.size_append, zc43]
  generalize grownCap W (0 + n) 0 43 = q at *
  simp
  omega

theorem clone_any (g n cap : Nat) (d : List C) (w : World) (hR : Row g d w) (hn : n = d.length) (h15 : n ≤ 100) :
    Calls Ybad.prog 32 #[.slice (some ⟨g, 0, none⟩) n cap] w fun e w' => ∃ g' c', e = .returned (.slice (some ⟨g', 0, none⟩) n c') ∧ w.heap.size ≤ g' ∧ n ≤ c' ∧ c' ≤ 9223372036854775807 ∧ Row g' d w' ∧ Below w.heap.size w w' := by
  obtain ⟨i0, hii, hiz, his, hib⟩ := info_parts info43
  have h := AnyE.slices_Clone Ybad.cloneC i0 z43 3 32 hii hiz his hib rfl (by decide) Ybad.sizeOf43 g 0 n cap (encs d) w (by rw [encs_length, hn]) (by unfold maxLen; omega) (by omega) (fun j u hj => by
    have := hR.news j u hj
    have hadd : (⟨g, 0, none⟩ : Addr).add j = ⟨g, 0 + j, none⟩ := by unfold Addr.add; split <;> simp_all
    rwa [hadd] at this) (encs_one d)
  change Calls Ybad.prog 32 _ _ _ at h
  refine h.mono ?_
  rintro e w' ⟨v', rfl, ho, hne, hb⟩
  rcases ho.2 with ⟨e, _⟩ | ⟨g', c', cur, rfl, _⟩
  · exact absurd e hne
  · obtain ⟨r1, r2, r3, r4, r5⟩ := Row.of_own ho
    exact ⟨g', c', rfl, r3, r4, r5, r1, hb⟩

set_option maxHeartbeats 1000000 in
theorem live_w (rb mb : Nat) (L : List (Nat × Nat)) (g n cap : Nat) (d : List C) (w : World) (hf : w.cell? ⟨rb, 6, none⟩ = some (.map (some mb))) (hM : Mp w mb L) (hR : Row g d w) (hn : n = d.length) (h15 : n ≤ 100) (hc : n ≤ cap) (hc2 : cap ≤ 9223372036854775807) :
    Calls Ybad.prog 25 #[.pointer (some ⟨rb, 0, none⟩), .slice (some ⟨g, 0, none⟩) n cap] w fun e w' => ∃ g' n' c' d', e = .returned (.slice (some ⟨g', 0, none⟩) n' c') ∧ (g' = g ∨ w.heap.size ≤ g') ∧ n' = d'.length ∧ n' ≤ n ∧ n' ≤ c' ∧ c' ≤ 9223372036854775807 ∧ Row g' d' w' ∧ Below w.heap.size w w' := by
  obtain ⟨w1, hw1⟩ : ∃ w1, w1 = w.alloc (.cells #[.pointer (some ⟨rb, 0, none⟩)] 53) := ⟨_, rfl⟩
  have hb1 : Below w.heap.size w w1 := hw1 ▸ (Below.refl _ _).alloc (Nat.le_refl _) _
  have hsz : w1.heap.size = w.heap.size + 1 := by simp [hw1]
  have S1 : Stp w.heap.size rb mb L w1 := ⟨by simp [hw1], (hb1.cell (p := ⟨rb, 6, none⟩) (lt_of_cell hf)).trans hf, hM.below hb1⟩
  have HS := hid S1
  have HR := hid (hR.read hb1)
  have HB1 := hid hb1
  have HSZ := hid hsz
  have hlen := S1.mp.len
  have c0 := S1.box
  have c1 := S1.fld
  have HL : Hid (rb < w.heap.size ∧ mb < w.heap.size ∧ g < w.heap.size) := hid ⟨lt_of_cell hf, hM.lt, hR.ic.lt⟩
  have HCL := hid (clone_any g n cap d w1 HR.out hn h15)
  have HN := hid hn
  clear hf hM hR hb1 hsz S1 hn
  by_cases hL : L.length = 0
  · rw [hL] at hlen
    go_enter Ybad.func25, Ybad.ntmps25
    go_upto_region 1 with fail
    rw [← hw1]
    clear hw1
    go_wp2
    go_ret
    exact ⟨g, n, cap, d, rfl, .inl rfl, HN.out, Nat.le_refl _, hc, hc2, HR.out, HB1.out⟩
  · have hL2 : ((L.length : Int) == 0) = false := by rw [beq_eq_false_iff_ne]; omega
    have hL3 : ¬ (L.length : Int) = 0 := by omega
    generalize (L.length : Int) = ll at *
    go_enter Ybad.func25, Ybad.ntmps25
    go_upto_region 1 with fail
    rw [← hw1]
    clear hw1
    go_wp2_with (first | (go_at_call 32; with_reducible (refine Calls.mono HCL.out ?_); rintro e w2 ⟨g', c', rfl, hg', hc1', hc2', hr2, hb2⟩; have HD := hid (delete_w w.heap.size rb mb L g' n c' d w2 (HS.out.below hb2) (by have := HSZ.out; omega) (by have := HSZ.out; have := HL.out; omega) (by have := HSZ.out; have := HL.out; omega) hr2 HN.out hc1' hc2'); have HB2 := hid hb2; clear hr2 hb2) | (go_at_call 38; with_reducible (refine Calls.mono HD.out ?_); rintro e w3 ⟨d', hd', rfl, ho3, hr3⟩) | fail)
    go_ret
    have hzz := HSZ.out
    exact ⟨g', d'.length, c', d', rfl, .inr (by omega), rfl, hd', by omega, hc2', hr3, ho3.below (HB1.out.trans (HB2.out.mono HB1.out.size)) (by have := HB2.out.size; omega) (by omega)⟩
end Go.Proofs.YbulkcntwDoor
