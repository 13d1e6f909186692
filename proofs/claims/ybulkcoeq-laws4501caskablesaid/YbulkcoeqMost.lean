import Derived.Test.YbulkcoeqNode
import Derived.Test.YbulkcoeqMap
import Derived.Test.YbulkcoeqSlice
import Derived.Deep.CutBlock
namespace Go.Proofs.Ybulkcoeq
open Go.RowKit
set_option linter.unusedVariables false
set_option linter.unusedSimpArgs false

theorem info24 : (Yba.prog.info? 24).map (fun i => (i.zero, i.size, i.bytes)) = some (some (.pointer none), 1, 8) := by kernel_rfl
theorem own_some {v : World} {base e n : Nat} {x : Value} {xs : List Value} (h : v.ownsRow base e 1 x n xs) (hn : 0 < n) : ∃ g cap, x = .slice (some ⟨g, 0, none⟩) n cap ∧ base ≤ g ∧ isC v g ∧ n ≤ cap ∧ cap ≤ 9223372036854775807 := by
  rcases h.2 with ⟨_, h0⟩ | ⟨g, cap, cur, h1, h2, h3, h4, h5, _⟩
  · omega
  · exact ⟨g, cap, h1, h2, ⟨_, _, h3⟩, h4, h5⟩
theorem own_base {v : World} {base e n : Nat} {x : Value} {xs : List Value} (h : v.ownsRow base e 1 x n xs) : v.ownsRow 0 e 1 x n xs := by
  refine ⟨h.1, ?_⟩
  rcases h.2 with hn | ⟨g, cap, cur, h1, h2, h3⟩
  · exact .inl hn
  · exact .inr ⟨g, cap, cur, h1, Nat.zero_le _, h3⟩
theorem ptrs_one (L : List Nat) : ∀ u ∈ L.map ptr, u.oneCell' = true := by
  intro u hu
  obtain ⟨b, _, rfl⟩ := List.mem_map.1 hu
  rfl

section
variable {n t : Nat} {S Tb : Nat → Nat} {f : Nat → Int} {rb sb tb : Nat} {sh : Option Addr}

theorem sorted_call {w w3 : World} (hH : Hp n t S Tb f rb sb tb sh w) {blk cap rc kc : Nat} (hn1 : 1 ≤ n) (hn : n ≤ 1024) (hb : Below w.heap.size w w3) (hblk : w.heap.size ≤ blk) (hrcb : ¬ rc = blk) (hkcb : ¬ kc = blk) (hic : isC w3 blk)
    (hrc : w3.cell? ⟨rc, 0, none⟩ = some (ptr rb)) (hkc : w3.cell? ⟨kc, 0, none⟩ = some (.slice (some ⟨blk, 0, none⟩) n cap)) (hrow : ∀ k, k < n → w3.cell? ⟨blk, k, none⟩ = some (ptr (S k))) :
    Calls Yba.prog 7 #[.iface 23 (.slice (some ⟨blk, 0, none⟩) n cap), .func (.func 8) #[] #[ptr rc, ptr kc]] w3 fun e w' => e = .returned (.tuple #[]) ∧ ∃ d', Per n d' ∧ Srt (hOf sh f) 0 n d' ∧ (∀ k, k < n → d' k < n) ∧ (∀ k, k < n → w'.cell? ⟨blk, k, none⟩ = some (ptr (S (d' k)))) ∧ Only blk w3 w' := by
  have hs := hb.size
  refine (sliceStable_any (w := w3) (blk := blk) (n := n) (c := cap) (enc := fun x => ptr (S x)) (h := hOf sh f) (l0 := ptr rc) (l1 := ptr kc) hn1 (by omega) (fun x => rfl) ?_ ⟨Only.refl _ _, hic, hrow, fun k hk => hk⟩).mono fun e w' ⟨he, d', g1, g2, g3, g4⟩ => ⟨he, d', g1, g3, g2, g4.row, g4.only⟩
  intro d v x y i j hx hy hR hi hj
  exact less_any (hH.below (hR.only.below hb hs hblk) (Nat.le_refl _)) rc kc blk cap ((hR.only.cell (cell_lt hrc) hrcb).trans hrc) ((hR.only.cell (cell_lt hkc) hkcb).trans hkc) (by omega) d hR.row hR.rng x y i j hx hy hi hj

theorem in_top {d : Nat → Nat} {m i : Nat} (hp : Per n d) (hs : Srt (hOf sh f) 0 n d) (hm : m ≤ n) (hi : i < n) (hr : ∀ k, k < n → d k < n) (hinj : ∀ i j, i < n → j < n → S i = S j → i = j) : S i ∈ (List.range m).map (fun k => S (d k)) ↔ rank (hOf sh f) n i < m := by
  rw [← top_iff hp hs hm i hi]
  constructor
  · intro h
    obtain ⟨k, hk, e⟩ := List.mem_map.1 h
    have hk' : k < m := by simpa using hk
    exact ⟨k, hk', hinj _ _ (hr k (by omega)) hi e⟩
  · rintro ⟨k, hk, rfl⟩
    exact List.mem_map.2 ⟨k, by simpa using hk, rfl⟩
theorem one_ptr (w : World) (u : Value) (t : TypeId) : ∀ j x, [u][j]? = some x → (w.alloc (.cells #[u] t)).cell? ((⟨w.heap.size, 0, none⟩ : Addr).add j) = some x := by
  intro j x hj
  match j, hj with
  | 0, hj => simp at hj; subst hj; simp [Addr.add]
  | j + 1, hj => simp at hj

set_option maxRecDepth 100000 in
set_option maxHeartbeats 8000000 in
theorem most_all {w : World} (h : Hp n t S Tb f rb sb tb sh w) (m : Nat) (hm : m ≤ 8) (hnm : n ≤ m) :
    Calls Yba.prog 6 #[ptr rb, .int .i64 (m : Int)] w fun e w' => e = .returned (.slice (some ⟨sb, 0, none⟩) n n) ∧ Below w.heap.size w w' := by
  have c1 := (h.below ((Below.refl _ w).alloc (Nat.le_refl _) (.cells #[ptr rb] 45)) (Nat.le_refl _)).rse
  have hd : decide ((n : Int) ≤ (m : Int)) = true := by simp; omega
  clear h
  go_enter Yba.func6, Yba.ntmps6
  go_wp2
  go_ret
  exact ⟨rfl, (Below.refl _ _).alloc (Nat.le_refl _) _⟩

set_option maxRecDepth 100000 in
set_option maxHeartbeats 8000000 in
theorem most_some {w : World} (h : Hp n t S Tb f rb sb tb sh w) (m : Nat) (hm : m ≤ 8) (hnm : m < n) (hn : n ≤ 1024) :
    Calls Yba.prog 6 #[ptr rb, .int .i64 (m : Int)] w fun e w' => ∃ p cap, e = .returned (.slice (some p) (kept (hOf sh f) n m n).length cap) ∧ w'.ownsRow 0 24 1 (.slice (some p) (kept (hOf sh f) n m n).length cap) (kept (hOf sh f) n m n).length ((kept (hOf sh f) n m n).map fun k => ptr (S k)) ∧ Below w.heap.size w w' := by
  obtain ⟨i0, hii, hz0, hz1, hz2⟩ := info_parts info24
  have hH1 := h.below ((Below.refl _ w).alloc (Nat.le_refl _) (.cells #[ptr rb] 45)) (Nat.le_refl _)
  have c1 := hH1.rse
  have HNEW := hid (hH1.rowS.cells (g := sb) rfl)
  have hd : decide ((n : Int) ≤ (m : Int)) = false := by simp; omega
  have HH := hid h
  clear h hH1
  go_enter Yba.func6, Yba.ntmps6
  go_upto_region 4 with (first
    | (at_builtin; go_must (refine wpList_append_own _ rfl _ _ 23 rfl (w.heap.size + 1) 24 i0 (.pointer none) 1 8 Yba.underlying23 hii hz0 hz1 hz2 rfl (by decide) _ 0 [] rfl (World.ownsRow_nil _ _ _ _) ⟨sb, 0, none⟩ n n ((List.range n).map fun k => ptr (S k)) rfl (by simp) HNEW.out (fun u hu => by obtain ⟨b, _, rfl⟩ := List.mem_map.1 hu; rfl) (by unfold maxLen; omega) (by omega) (by simp) ?_); intro v' w2 hown' hgrow hnil; obtain ⟨blk, cap, rfl, hblk, hic, hcap1, hcap2⟩ := own_some hown' (by omega); have HB2 : Hid (Below w.heap.size w w2) := hid (((Below.refl _ w).alloc (Nat.le_refl _) _).grown hgrow (by simp) (fun k hk => by cases hk)); have HOWN := hid hown'; clear hown' hnil))
  have hgrow' : (w.alloc (.cells #[ptr rb] 45)).grownBy w2 none := hgrow
  have hw2 := hgrow'.size
  have hb3 : Below w.heap.size w (w2.alloc (.cells #[.slice (some ⟨blk, 0, none⟩) n cap] 23)) := HB2.out.alloc (by have := HB2.out.size; omega) _
  have hbl : blk < w2.heap.size := hic.lt
  have hws : w.heap.size < w2.heap.size := by simp at hw2; omega
  have hal := (Below.refl w2.heap.size w2).alloc (Nat.le_refl _) (.cells #[.slice (some ⟨blk, 0, none⟩) n cap] 23)
  have hrc : (w2.alloc (.cells #[.slice (some ⟨blk, 0, none⟩) n cap] 23)).cell? ⟨w.heap.size, 0, none⟩ = some (ptr rb) := by
    rw [hal.cell (p := ⟨w.heap.size, 0, none⟩) hws, cell_heap (hgrow'.block w.heap.size (by simp) (by simp)), World.cell?_alloc_at (hn := by simp)]; rfl
  have hkc : (w2.alloc (.cells #[.slice (some ⟨blk, 0, none⟩) n cap] 23)).cell? ⟨w2.heap.size, 0, none⟩ = some (.slice (some ⟨blk, 0, none⟩) n cap) := by
    rw [World.cell?_alloc_at (hn := by simp)]; rfl
  have hrow : ∀ k, k < n → (w2.alloc (.cells #[.slice (some ⟨blk, 0, none⟩) n cap] 23)).cell? ⟨blk, k, none⟩ = some (ptr (S k)) := by
    intro k hk
    have h1 := HOWN.out
    simp only [Nat.zero_add, List.nil_append] at h1
    rw [hal.cell (p := ⟨blk, k, none⟩) hbl, World.ownsRow.cellAt h1 k (by omega)]
    simp [hk]
  have HS := hid (sorted_call HH.out (by omega) hn hb3 (by omega) (by omega) (by omega) (hic.of_heap (hal.block blk hbl)) hrc hkc hrow)
  obtain ⟨w3, hw3⟩ : ∃ w3, w3 = w2.alloc (.cells #[.slice (some ⟨blk, 0, none⟩) n cap] 23) := ⟨_, rfl⟩
  have hs3 : w3.heap.size = w2.heap.size + 1 := by rw [hw3]; simp
  rw [← hw3] at hb3 hrc hkc hrow HS ⊢
  have HB3 := hid hb3
  clear hb3 hrow hal hw3 hgrow hgrow' HB2 HNEW c1 HOWN hic
  generalize w2.heap.size = kc at *
  have hmm := fun W => run_makeMap64 W m
  have hkn : ¬ kc = blk := by omega
  have hrn : ¬ w.heap.size = blk := by omega
  have hkl : kc < w3.heap.size := by omega
  have hrl : w.heap.size < w3.heap.size := by omega
  go_wp2_with (first | (go_at_call 7; go_must (with_reducible (refine Calls.mono HS.out ?_)); go_must (rintro e w4 ⟨rfl, d', g1, g2, g3, g4, g5⟩); go_must (have hkc4 : w4.cell? ⟨kc, 0, none⟩ = some (.slice (some ⟨blk, 0, none⟩) n cap) := (g5.cell (k := kc) hkl hkn).trans hkc); go_must (have hrc4 : w4.cell? ⟨w.heap.size, 0, none⟩ = some (ptr rb) := (g5.cell (k := w.heap.size) hrl hrn).trans hrc); go_must (have hkc5 : (w4.alloc (.map #[] 0)).cell? ⟨kc, 0, none⟩ = some (.slice (some ⟨blk, 0, none⟩) n cap) := (((Below.refl _ w4).alloc (Nat.le_refl _) _).cell (p := ⟨kc, 0, none⟩) (Nat.lt_of_lt_of_le hkl g5.size)).trans hkc4); go_must (have HB4 := hid (g5.below HB3.out HB3.out.size (by omega))); have HP := hid g1; have HSR := hid g2; have HRG := hid g3; have HRW := hid g4; have hs4 := g5.size; clear g1 g2 g3 g4 g5))
  have hbl4 : blk < w4.heap.size := by omega
  have hnm4 : ¬ blk = w4.heap.size := by omega
  generalize hmb : w4.heap.size = mb at *
  have HMP0 := hid (Mp.new w4)
  rw [hmb] at HMP0
  obtain ⟨w5, hw5⟩ : ∃ w5, w5 = w4.alloc (.map #[] 0) := ⟨_, rfl⟩
  have hal5 : Below mb w4 w5 := by rw [hw5, ← hmb]; exact (Below.refl _ _).alloc (Nat.le_refl _) _
  have hs5 : w5.heap.size = mb + 1 := by rw [hw5, ← hmb]; simp
  rw [← hw5] at HMP0 ⊢
  have HB5 := hid ((HB4.out).trans (hal5.mono (by have := HB4.out.size; omega)))
  have hrc5 : w5.cell? ⟨w.heap.size, 0, none⟩ = some (ptr rb) := (hal5.cell (p := ⟨w.heap.size, 0, none⟩) (by show w.heap.size < mb; omega)).trans hrc4
  have HRW5 : Hid (∀ k, k < n → w5.cell? ⟨blk, k, none⟩ = some (ptr (S (d' k)))) := hid (fun k hk => (hal5.cell (p := ⟨blk, k, none⟩) hbl4).trans (HRW.out k hk))
  clear hw5 hal5 HRW hkc4 hrc4 hkc5 hmm hkc hrc HS
  go_loopw [38] (fun s38 v => ∃ k : Nat, s38 = .int .i64 (k : Int) ∧ k ≤ m ∧ Only mb w5 v ∧ Mp v mb ((List.range k).map fun i => S (d' i))) (fun s38 _ => m - (intOf s38).toNat)
  case atStart => exact ⟨0, rfl, Nat.zero_le _, Only.refl _ _, HMP0.out⟩
  case round =>
    obtain ⟨k, rfl, hkm, hOn, hMp⟩ := hrel
    have hbv : Below w.heap.size w wr := hOn.below HB5.out (by omega) (by omega)
    have HPv := hid (HH.out.below hbv (Nat.le_refl _))
    by_cases hk : k < m
    · have hdk : decide ((k : Int) < (m : Int)) = true := by simp; omega
      have hck : wr.cell? ⟨blk, k, none⟩ = some (ptr (S (d' k))) := (hOn.cell (k := blk) (by omega) hnm4).trans (HRW5.out k (by omega))
      have hupd := hMp.update (S (d' k)) (HPv.out.sC _ (HRG.out k (by omega))) (fun b hb => by
        obtain ⟨i, hi, rfl⟩ := List.mem_map.1 hb
        have hi' : i < k := by simpa using hi
        refine ⟨HPv.out.sC _ (HRG.out i (by omega)), fun e => ?_⟩
        have := HPv.out.inj _ _ (HRG.out i (by omega)) (HRG.out k (by omega)) e
        have := HP.out.inj i k (by omega) (by omega) this
        omega)
      obtain ⟨wn, hmu, hmp2, hon2⟩ := hupd
      have HMP2 := hid hmp2
      have HON2 := hid (hOn.trans hon2)
      clear hMp hOn hbv hmp2 hon2
      generalize S (d' k) = y at hck hmu
      go_wp2
      refine ⟨⟨k + 1, congrArg _ (by omega), by omega, HON2.out, ?_⟩, ?_⟩
      · rw [List.range_succ, List.map_append]; exact HMP2.out
      · show m - ((k : Int) + 1).toNat < m - ((k : Int)).toNat
        omega
    · have hdk : decide ((k : Int) < (m : Int)) = false := by simp; omega
      obtain rfl : k = m := by omega
      have hdk2 : decide ((k : Int) < (k : Int)) = false := by simp
      have hrcv : wr.cell? ⟨w.heap.size, 0, none⟩ = some (ptr rb) := (hOn.cell (k := w.heap.size) (by omega) (by omega)).trans hrc5
      have HMPv := hid hMp
      have HBv := hid hbv
      have hmbv : mb < wr.heap.size := by have := hOn.size; omega
      have hwv : w.heap.size < wr.heap.size := by have := hOn.size; omega
      have hby : i0.bytes * k ≤ 281474976710656 := by rw [hz2]; omega
      clear hMp hOn hbv
      go_wp2_with (first | (at_make; go_must (refine wpList_make_own _ rfl (.const (.int .i64 0)) (.tmp 45) 23 rfl wr.heap.size 24 i0 (.pointer none) 1 Yba.underlying23 hii hz0 hz1 .i64 .i64 _ k rfl rfl rfl hby (by unfold maxLen; omega) (Nat.le_refl _) ?_); go_must (intro w6 ho6 hg6); go_must (have hb6 : Below wr.heap.size wr w6 := (Below.refl _ _).grown hg6 (Nat.le_refl _) (fun k hk => by cases hk)); go_must (have hrc6 : w6.cell? ⟨w.heap.size, 0, none⟩ = some (ptr rb) := (hb6.cell (p := ⟨w.heap.size, 0, none⟩) hwv).trans hrcv); go_must (have hse6 := (HPv.out.below hb6 (Nat.le_refl _)).rse); have HB6 := hid hb6; have HO6 := hid ho6; clear ho6 hg6 hb6))
      go_loopw [9, 52] (fun s9 s52 v => ∃ (i g c : Nat), s9 = .slice (some ⟨g, 0, none⟩) (kept (hOf sh f) n k i).length c ∧ s52 = .int .i64 (i : Int) ∧ i ≤ n ∧ Below wr.heap.size wr v ∧ v.ownsRow wr.heap.size 24 1 (.slice (some ⟨g, 0, none⟩) (kept (hOf sh f) n k i).length c) (kept (hOf sh f) n k i).length ((kept (hOf sh f) n k i).map fun x => ptr (S x))) (fun _ s52 _ => n - (intOf s52).toNat)
      case atStart => exact ⟨0, _, _, rfl, rfl, Nat.zero_le _, HB6.out, HO6.out⟩
      case round =>
        clear HO6 HB6 hrc6 hse6
        obtain ⟨i, g, c, rfl, rfl, hi, hbq, hown⟩ := hrel
        have hPq := HPv.out.below hbq (Nat.le_refl _)
        have hMq := HMPv.out.only hbq hmbv
        have hbw : Below w.heap.size w wr := HBv.out.trans (hbq.mono (by omega))
        have hkl := kept_len (hOf sh f) n k i
        have hgl : g < wr.heap.size := (hown.lt g rfl).2
        have hzz := hbq.size
        by_cases hlt : i < n
        · have hdl : decide ((i : Int) < (n : Int)) = true := by simp; omega
          have hsi : wr.cell? ⟨sb, i, none⟩ = some (ptr (S i)) := by
            rw [World.ownsRow.cellAt hPq.rowS i (by omega)]
            simp [hlt]
          have hlk := hMq.look (S i) (hPq.sC i hlt) (fun b hb => by
            obtain ⟨q, hq, rfl⟩ := List.mem_map.1 hb
            have hq' : q < k := by simpa using hq
            exact hPq.sC _ (HRG.out q (by omega)))
          have htop := in_top (S := S) (sh := sh) (f := f) (m := k) HP.out HSR.out (by omega) hlt HRG.out hPq.inj
          have HOWN := hid hown
          have HBQ := hid hbq
          by_cases hrk : rank (hOf sh f) n i < k
          · rw [decide_eq_true (htop.2 hrk)] at hlk
            have HKS : Hid (kept (hOf sh f) n k (i + 1) = kept (hOf sh f) n k i ++ [i]) := hid (by rw [kept_succ, if_pos hrk])
            clear hPq hMq htop hown hbq hrk hbw
            obtain ⟨y, hy⟩ : ∃ y, y = S i := ⟨_, rfl⟩
            rw [← hy] at hsi hlk
            have HY := hid hy
            clear hy
            go_wp2_with (first
              | (at_builtin; go_must (refine wpList_append_own _ rfl _ _ 23 rfl _ 24 i0 (.pointer none) 1 8 Yba.underlying23 hii hz0 hz1 hz2 rfl (by decide) _ _ _ rfl (HOWN.out.alloc _) ⟨wr.heap.size, 0, none⟩ 1 1 [ptr y] rfl rfl (one_ptr _ _ _) (fun u hu => by simp at hu; subst hu; rfl) (by unfold maxLen; omega) (by omega) (by simp; omega) ?_); go_must (intro v' w7 hown7 hg7 hnil7); go_must (obtain ⟨g', c', rfl, hg1, hg2, hg3, hg4⟩ := own_some hown7 (by omega)); go_must (have hb7 := hid (((HBQ.out.alloc hzz _).grown hg7 (by simp; omega) (fun q hq => (HOWN.out.lt q hq).1)))); have HO7 := hid hown7; clear hown7 hg7 hnil7))
            refine ⟨⟨i + 1, g', c', ?_, congrArg _ (by omega), by omega, hb7.out, ?_⟩, ?_⟩
            · rw [HKS.out]; simp
            · rw [HKS.out]
              have := HO7.out
              rw [HY.out] at this
              simpa using this
            · show n - ((i : Int) + 1).toNat < n - ((i : Int)).toNat
              omega
          · rw [decide_eq_false (fun q => hrk (htop.1 q))] at hlk
            have HKS : Hid (kept (hOf sh f) n k (i + 1) = kept (hOf sh f) n k i) := hid (by rw [kept_succ, if_neg hrk, List.append_nil])
            clear hPq hMq htop hown hbq hrk hbw
            obtain ⟨y, hy⟩ : ∃ y, y = S i := ⟨_, rfl⟩
            rw [← hy] at hsi hlk
            clear hy
            go_wp2
            refine ⟨⟨i + 1, g, c, by rw [HKS.out], congrArg _ (by omega), by omega, HBQ.out, by rw [HKS.out]; exact HOWN.out⟩, ?_⟩
            show n - ((i : Int) + 1).toNat < n - ((i : Int)).toNat
            omega
        · have hdl : decide ((i : Int) < (n : Int)) = false := by simp; omega
          obtain rfl : i = n := by omega
          have hdl2 : decide ((i : Int) < (i : Int)) = false := by simp
          have HOWN := hid hown
          have HBW := hid hbw
          clear hPq hMq hown hbw hbq
          go_wp2
          go_ret
          exact ⟨_, _, rfl, own_base HOWN.out, HBW.out⟩
end
end Go.Proofs.Ybulkcoeq
