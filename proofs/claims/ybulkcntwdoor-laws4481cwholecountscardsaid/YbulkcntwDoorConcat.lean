import Derived.Test.YbulkcntwDoorCompact
import Derived.Test.YbulkcntwDoorOwn
namespace Go.Proofs.YbulkcntwDoor
open Go.RowKit Go.Sort
set_option linter.unusedVariables false
set_option linter.unusedSimpArgs false

theorem Row.news {g : Nat} {d : List C} {w : World} (h : Row g d w) : ∀ j u, (encs d)[j]? = some u → w.cell? ((⟨g, 0, none⟩ : Addr).add j) = some u := by
  intro j u hj
  have hl := (List.getElem?_eq_some_iff.1 hj).1
  rw [encs_length] at hl
  have hadd : (⟨g, 0, none⟩ : Addr).add j = ⟨g, j, none⟩ := by unfold Addr.add; split <;> simp_all
  rw [hadd]
  have r := h.row (j / 3) (by omega)
  have e := encs_get d (j / 3) (by omega)
  have : j % 3 = 0 ∨ j % 3 = 1 ∨ j % 3 = 2 := by omega
  rcases this with h0 | h0 | h0
  · rw [← hj, show j = j / 3 * 3 by omega, r.1, e.1]
  · rw [← hj, show j = j / 3 * 3 + 1 by omega, r.2.1, e.2.1]
  · rw [← hj, show j = j / 3 * 3 + 2 by omega, r.2.2, e.2.2]

/-- What is asked of slices.Grow. -/
def Grows : Prop := ∀ (n : Nat) (W : World), 0 < n → n ≤ 1000 → Calls Ybad.prog 40 #[.slice none 0 0, .int .i64 (n : Int)] W fun e w' => ∃ v, e = .returned v ∧ w'.ownsRow W.heap.size 43 3 v 0 [] ∧ v ≠ .slice none 0 0 ∧ Below W.heap.size W w'

set_option maxHeartbeats 1000000 in
theorem concat_of (HG0 : Grows) (z zc g0 n0 c0 g1 n1 c1 g2 n2 c2 : Nat) (d0 d1 d2 : List C) (w : World)
    (hz0 : w.cell? ⟨z, 0, none⟩ = some (.slice (some ⟨g0, 0, none⟩) n0 c0)) (hz1 : w.cell? ⟨z, 1, none⟩ = some (.slice (some ⟨g1, 0, none⟩) n1 c1)) (hz2 : w.cell? ⟨z, 2, none⟩ = some (.slice (some ⟨g2, 0, none⟩) n2 c2))
    (r0 : Row g0 d0 w) (r1 : Row g1 d1 w) (r2 : Row g2 d2 w) (l0 : n0 = d0.length) (l1 : n1 = d1.length) (l2 : n2 = d2.length) (b0 : 0 < n0) (b1 : n0 ≤ 100) (b2 : n1 ≤ 100) (b3 : n2 ≤ 100) :
    Calls Ybad.prog 26 #[.slice (some ⟨z, 0, none⟩) 3 zc] w fun e w' => ∃ g cap, e = .returned (.slice (some ⟨g, 0, none⟩) (n0 + n1 + n2) cap) ∧ w.heap.size ≤ g ∧ n0 + n1 + n2 ≤ cap ∧ cap ≤ 9223372036854775807 ∧ Row g (d0 ++ d1 ++ d2) w' ∧ Below w.heap.size w w' := by
  obtain ⟨i0, hii, hiz, his, hib⟩ := info_parts info43
  have HR := hid (And.intro r0 (And.intro r1 r2))
  have HL := hid (And.intro l0 (And.intro l1 l2))
  clear r0 r1 r2 l0 l1 l2
  have HG := hid (HG0 (n0 + n1 + n2) w (by omega) (by omega))
  clear HG0
  obtain ⟨t, ht⟩ : ∃ t, t = n0 + n1 + n2 := ⟨_, rfl⟩
  have ht2 : (n0 : Int) + (n1 : Int) + (n2 : Int) = (t : Int) := by omega
  rw [← ht] at HG
  have HT := hid ht
  clear ht
  go_enter Ybad.func26, Ybad.ntmps26
  go_wp2_with fail
  go_loopw [3, 11] (fun s3 s11 v => v = w ∧ ((s11 = .int .i64 0 ∧ s3 = .int .i64 0) ∨ (s11 = .int .i64 1 ∧ s3 = .int .i64 (n0 : Int)) ∨ (s11 = .int .i64 2 ∧ s3 = .int .i64 ((n0 : Int) + (n1 : Int))) ∨ (s11 = .int .i64 3 ∧ s3 = .int .i64 (t : Int)))) (fun s3 s11 _ => 3 - (intOf s11).toNat)
  case atStart => exact ⟨rfl, .inl ⟨rfl, rfl⟩⟩
  case round =>
    obtain ⟨hv, h⟩ := hrel
    replace hv := hv.symm
    subst hv
    rcases h with ⟨rfl, rfl⟩ | ⟨rfl, rfl⟩ | ⟨rfl, rfl⟩ | ⟨rfl, rfl⟩
    · have q1 : decide ((n0 : Int) < 0) = false := by simp
      go_wp2
      exact ⟨⟨by trivial, .inr (.inl ⟨rfl, rfl⟩)⟩, by show 3 - (1 : Int).toNat < 3 - (0 : Int).toNat; decide⟩
    · have q1 : decide ((n0 : Int) + (n1 : Int) < 0) = false := by simp; omega
      go_wp2
      exact ⟨⟨by trivial, .inr (.inr (.inl ⟨rfl, rfl⟩))⟩, by show 3 - (2 : Int).toNat < 3 - (1 : Int).toNat; decide⟩
    · have q1 : decide ((t : Int) < 0) = false := by simp
      go_wp2
      exact ⟨⟨by trivial, .inr (.inr (.inr ⟨rfl, rfl⟩))⟩, by show 3 - (3 : Int).toNat < 3 - (2 : Int).toNat; decide⟩
    · go_wp2_with (first | (go_at_call 40; with_reducible (refine Calls.mono HG.out ?_); rintro e w2 ⟨v2, rfl, ho2, hv2, hb2⟩) | fail)
      have HB2 := hid hb2
      have HO2 := hid ho2
      have HV2 := hid hv2
      clear ho2 hb2 hv2
      go_loopw [6, 27] (fun s6 s27 v => Hid (Below w.heap.size w v) ∧ Hid (s6 ≠ .slice none 0 0) ∧ ((s27 = .int .i64 0 ∧ Hid (v.ownsRow w.heap.size 43 3 s6 0 (encs []))) ∨ (s27 = .int .i64 1 ∧ Hid (v.ownsRow w.heap.size 43 3 s6 n0 (encs d0))) ∨ (s27 = .int .i64 2 ∧ Hid (v.ownsRow w.heap.size 43 3 s6 (n0 + n1) (encs (d0 ++ d1)))) ∨ (s27 = .int .i64 3 ∧ Hid (v.ownsRow w.heap.size 43 3 s6 (n0 + n1 + n2) (encs (d0 ++ d1 ++ d2)))))) (fun s6 s27 _ => 3 - (intOf s27).toNat)
      case atStart => exact ⟨HB2, HV2, .inl ⟨rfl, HO2⟩⟩
      case round =>
        obtain ⟨HB, HV, h⟩ := hrel
        have HBS := hid HB.out.size
        have y0 := (HB.out.cell (p := ⟨z, 0, none⟩) (lt_of_cell hz0)).trans hz0
        have y1 := (HB.out.cell (p := ⟨z, 1, none⟩) (lt_of_cell hz0)).trans hz1
        have y2 := (HB.out.cell (p := ⟨z, 2, none⟩) (lt_of_cell hz0)).trans hz2
        have HR0 := hid (HR.out.1.below HB.out HR.out.1.ic.lt)
        have HR1 := hid (HR.out.2.1.below HB.out HR.out.2.1.ic.lt)
        have HR2 := hid (HR.out.2.2.below HB.out HR.out.2.2.ic.lt)
        rcases h with ⟨rfl, HO⟩ | ⟨rfl, HO⟩ | ⟨rfl, HO⟩ | ⟨rfl, HO⟩
        · go_wp2_with (first | (at_builtin; go_must (refine wpList_append_own _ rfl _ _ 31 rfl w.heap.size 43 i0 z43 3 32 Ybad.underlying31 hii hiz his hib rfl (by decide) _ 0 (encs []) rfl HO.out ⟨g0, 0, none⟩ n0 c0 (encs d0) rfl (by rw [encs_length, HL.out.1]) HR0.out.news (encs_one d0) (by unfold maxLen; omega) (by omega) HBS.out ?_); go_must (intro v' w3 ho3 hg3 hnil3)) | fail)
          refine ⟨⟨hid (HB.out.grown hg3 HBS.out (fun k hk => (HO.out.lt k hk).1)), hid (fun e => HV.out (hnil3.1 e).1), .inr (.inl ⟨rfl, hid (by rw [Nat.zero_add, ← encs_append, List.nil_append] at ho3; exact ho3)⟩)⟩, by show 3 - ((0+1 : Int)).toNat < 3 - ((0 : Int)).toNat; decide⟩
        · go_wp2_with (first | (at_builtin; go_must (refine wpList_append_own _ rfl _ _ 31 rfl w.heap.size 43 i0 z43 3 32 Ybad.underlying31 hii hiz his hib rfl (by decide) _ n0 (encs d0) rfl HO.out ⟨g1, 0, none⟩ n1 c1 (encs d1) rfl (by rw [encs_length, HL.out.2.1]) HR1.out.news (encs_one d1) (by unfold maxLen; omega) (by omega) HBS.out ?_); go_must (intro v' w3 ho3 hg3 hnil3)) | fail)
          refine ⟨⟨hid (HB.out.grown hg3 HBS.out (fun k hk => (HO.out.lt k hk).1)), hid (fun e => HV.out (hnil3.1 e).1), .inr (.inr (.inl ⟨rfl, hid (by rw [← encs_append] at ho3; exact ho3)⟩))⟩, by show 3 - ((1+1 : Int)).toNat < 3 - ((1 : Int)).toNat; decide⟩
        · go_wp2_with (first | (at_builtin; go_must (refine wpList_append_own _ rfl _ _ 31 rfl w.heap.size 43 i0 z43 3 32 Ybad.underlying31 hii hiz his hib rfl (by decide) _ (n0 + n1) (encs (d0 ++ d1)) rfl HO.out ⟨g2, 0, none⟩ n2 c2 (encs d2) rfl (by rw [encs_length, HL.out.2.2]) HR2.out.news (encs_one d2) (by unfold maxLen; omega) (by omega) HBS.out ?_); go_must (intro v' w3 ho3 hg3 hnil3)) | fail)
          refine ⟨⟨hid (HB.out.grown hg3 HBS.out (fun k hk => (HO.out.lt k hk).1)), hid (fun e => HV.out (hnil3.1 e).1), .inr (.inr (.inr ⟨rfl, hid (by rw [← encs_append] at ho3; exact ho3)⟩))⟩, by show 3 - ((2+1 : Int)).toNat < 3 - ((2 : Int)).toNat; decide⟩
        · obtain ⟨g, cap, rfl, hg, _, hc1, hc2⟩ := own_some HO.out (by omega)
          have HF := hid (Row.of_own HO.out)
          go_wp2
          go_ret
          exact ⟨g, cap, rfl, hg, hc1, hc2, HF.out.1, HB.out⟩
end Go.Proofs.YbulkcntwDoor
