import Derived.Test.YbulkcoeqMost
namespace Go.Proofs.Ybulkcoeq
open Go.RowKit
set_option linter.unusedVariables false
set_option linter.unusedSimpArgs false

section
variable {n t : Nat} {S Tb : Nat → Nat} {f : Nat → Int} {rb sb tb : Nat} {sh : Option Addr}

theorem most_any {w : World} (h : Hp n t S Tb f rb sb tb sh w) (m : Nat) (hm : m ≤ 8) (hn : n ≤ 1024) :
    Calls Yba.prog 6 #[ptr rb, .int .i64 (m : Int)] w fun e w' => ∃ g cap, e = .returned (.slice (some ⟨g, 0, none⟩) ((kept (hOf sh f) n m n).map S).length cap) ∧ w'.ownsRow 0 24 1 (.slice (some ⟨g, 0, none⟩) ((kept (hOf sh f) n m n).map S).length cap) ((kept (hOf sh f) n m n).map S).length (((kept (hOf sh f) n m n).map S).map ptr) ∧ Below w.heap.size w w' := by
  have hl : ((kept (hOf sh f) n m n).map S).length = (kept (hOf sh f) n m n).length := by simp
  have hmp : ((kept (hOf sh f) n m n).map S).map ptr = (kept (hOf sh f) n m n).map fun k => ptr (S k) := by simp
  rw [hl, hmp]
  rcases Nat.lt_or_ge m n with h1 | h1
  · refine (most_some h m hm h1 hn).mono fun e w' ⟨p, cap, he, ho, hb⟩ => ?_
    rcases ho.2 with ⟨h2, _⟩ | ⟨g, c2, cur, h2, h3⟩
    · cases h2
    · cases h2
      exact ⟨g, cap, he, ho, hb⟩
  · refine (most_all h m hm h1).mono fun e w' ⟨he, hb⟩ => ?_
    rw [kept_all _ _ _ h1, List.length_range]
    exact ⟨sb, n, he, own_below h.rowS hb (Nat.le_refl _), hb⟩

/-- Who is asked, in turn. -/
def asked (sh : Option Addr) (f : Nat → Int) (S Tb : Nat → Nat) (n t : Nat) : List Nat := (List.range t).map Tb ++ (kept (hOf sh f) n (8 - t) n).map S

set_option maxRecDepth 100000 in
set_option maxHeartbeats 8000000 in
theorem askable_any {w : World} (h : Hp n t S Tb f rb sb tb sh w) (ht : t ≤ 8) (hn : n ≤ 1024) :
    Calls Yba.prog 4 #[ptr rb] w fun e w' => ∃ sl, e = .returned sl ∧ w'.ownsRow 0 24 1 sl (asked sh f S Tb n t).length ((asked sh f S Tb n t).map ptr) ∧ Below w.heap.size w w' := by
  obtain ⟨i0, hii, hz0, hz1, hz2⟩ := info_parts info24
  obtain ⟨m, hm⟩ : ∃ m : Nat, m = 8 - t := ⟨_, rfl⟩
  have hmI : (8 : Int) - (t : Int) = (m : Int) := by omega
  have hm8 : m ≤ 8 := by omega
  have HC := hid (most_any h m hm8 hn)
  have hLn : ((kept (hOf sh f) n m n).map S).length ≤ n := by simp; exact kept_len _ _ _ _
  have HAS : Hid (asked sh f S Tb n t = (List.range t).map Tb ++ (kept (hOf sh f) n m n).map S) := hid (by unfold asked; rw [← hm])
  have c1 := h.rtu
  have HH := hid h
  generalize (kept (hOf sh f) n m n).map S = L at *
  clear h hm
  by_cases ht0 : t = 0
  · have hn1 : decide ((t : Int) = 0) = true := by simp; omega
    have hn2 : decide (t = 0) = true := by simp; omega
    have hn3 : ((t : Int) == 0) = true := by simp; omega
    have hn4 : (t == 0) = true := by simp; omega
    have HT0 := hid ht0
    clear ht0
    go_enter Yba.func4, Yba.ntmps4
    go_wp2_with (first | (go_at_call 6; with_reducible (refine Calls.mono HC.out ?_); rintro e w2 ⟨g, cap, rfl, ho, hb⟩; have c2 := (HH.out.below hb (Nat.le_refl _)).rtu; have HO := hid ho; have HB := hid hb; clear ho hb))
    go_ret
    refine ⟨_, rfl, ?_, HB.out⟩
    rw [HAS.out, HT0.out]
    simpa using HO.out
  · have hn1 : decide ((t : Int) = 0) = false := by simp; omega
    have hn2 : decide (t = 0) = false := by simp; omega
    have hn3 : ((t : Int) == 0) = false := by simp; omega
    have hn4 : (t == 0) = false := by simp; omega
    go_enter Yba.func4, Yba.ntmps4
    go_wp2_with (first
      | (go_at_call 6; go_must (with_reducible (refine Calls.mono HC.out ?_)); go_must (rintro e w2 ⟨g, cap, rfl, ho, hb⟩); go_must (have hH2 := HH.out.below hb (Nat.le_refl _)); have c2 := hH2.rtu; have HRT := hid hH2.rowT; have HO := hid ho; have HB := hid hb; clear ho hb hH2)
      | (at_builtin; refine wpList_append_own _ rfl _ (.tmp 22) 23 rfl w2.heap.size 24 i0 (.pointer none) 1 8 Yba.underlying23 hii hz0 hz1 hz2 rfl (by decide) _ 0 [] rfl (World.ownsRow_nil _ _ _ _) ⟨tb, 0, none⟩ t t ((List.range t).map fun k => ptr (Tb k)) rfl (by simp) (HRT.out.cells (g := tb) rfl) (fun u hu => by obtain ⟨b, _, rfl⟩ := List.mem_map.1 hu; rfl) (by unfold maxLen; omega) (by omega) (Nat.le_refl _) ?_; go_must (intro v1 w3 hown1 hg1 hnil1); go_must (have hb3 : Below w2.heap.size w2 w3 := (Below.refl _ _).grown hg1 (Nat.le_refl _) (fun k hk => by cases hk)); go_must (have HO3 := hid (own_below HO.out hb3 (Nat.le_refl _))); have HO1 := hid hown1; have HB3 := hid hb3; have hs3 := hb3.size; clear hown1 hg1 hnil1 hb3)
      | (at_builtin; go_must (refine wpList_append_own _ rfl _ (.tmp 24) 23 rfl w2.heap.size 24 i0 (.pointer none) 1 8 Yba.underlying23 hii hz0 hz1 hz2 rfl (by decide) _ _ _ rfl HO1.out ⟨g, 0, none⟩ L.length cap (L.map ptr) rfl (by simp) (HO3.out.cells (g := g) rfl) (ptrs_one L) (by unfold maxLen; omega) (by omega) hs3 ?_); go_must (intro v2 w4 hown2 hg2 hnil2); go_must (have HB4 := hid (HB3.out.grown hg2 hs3 (fun k hk => (HO1.out.lt k hk).1))); have HO4 := hid hown2; clear hown2 hg2 hnil2))
    go_ret
    refine ⟨_, rfl, ?_, HB.out.trans (HB4.out.mono HB.out.size)⟩
    rw [HAS.out]
    have := own_base HO4.out
    simpa [Function.comp_def] using this
end

set_option maxHeartbeats 1000000 in
theorem hold_any (p : Option Addr) (n cap : Nat) (f : Nat → Int) (sh : Bool) (w : World) (h : 0 < n → ∃ A, p = some A ∧ ∀ i, i < n → w.cell? (A.add i) = some (.int .i64 (f i))) (i : Nat) (hi : i < n) (hn : n ≤ 1024) :
    Calls Yba.prog 5 #[.slice p n cap, .int .i64 (i : Int), .bool sh] w fun e w' => e = .returned (.int .i64 (if sh then f i else 0)) ∧ w' = w := by
  obtain ⟨A, rfl, hA⟩ := h (by omega)
  have c := hA i hi
  have hiN : (i : Int) < (n : Int) := by omega
  clear hA
  cases sh with
  | true =>
    go_enter Yba.func5, Yba.ntmps5
    go_wp2
    go_ret
    exact ⟨rfl, rfl⟩
  | false =>
    go_enter Yba.func5, Yba.ntmps5
    go_wp2
    go_ret
    exact ⟨rfl, rfl⟩
end Go.Proofs.Ybulkcoeq
