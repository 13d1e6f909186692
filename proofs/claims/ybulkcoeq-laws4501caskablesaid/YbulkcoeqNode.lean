import Derived.Test.YbulkcoeqRank
import Derived.Test.YbulkcoeqFrame
import Derived.Laws.AppendOwn
import Derived.Laws.OwnMore
import Derived.OwnWalk
import Derived.LaidEqlPtr
namespace Go.Proofs.Ybulkcoeq
open Go.RowKit
set_option linter.unusedVariables false
set_option linter.unusedSimpArgs false

abbrev ptr (b : Nat) : Value := .pointer (some ⟨b, 0, none⟩)
/-- What a sender counts. -/
def hOf (sh : Option Addr) (f : Nat → Int) (x : Nat) : Int := if sh.isSome then f x else 0

theorem cell_lt {w : World} {a : Addr} {v : Value} (h : w.cell? a = some v) : a.block < w.heap.size := by
  rcases Nat.lt_or_ge a.block w.heap.size with h1 | h1
  · exact h1
  · unfold World.cell? at h
    rw [Array.getElem?_eq_none h1] at h
    cases h

theorem own_below {v v' : World} {base e n : Nat} {x : Value} {xs : List Value} (h : v.ownsRow base e 1 x n xs) {B : Nat} (hb : Below B v v') (hB : v.heap.size ≤ B) : v'.ownsRow base e 1 x n xs := by
  refine ⟨h.1, ?_⟩
  rcases h.2 with hn | ⟨g, cap, cur, h1, h2, h3, h4⟩
  · exact .inl hn
  · exact .inr ⟨g, cap, cur, h1, h2, by rw [hb.block g (Nat.lt_of_lt_of_le (Array.getElem?_eq_some_iff.1 h3).1 hB)]; exact h3, h4⟩

/-- The rebuild's memory. -/
structure Hp (n t : Nat) (S Tb : Nat → Nat) (f : Nat → Int) (rb sb tb : Nat) (sh : Option Addr) (v : World) : Prop where
  first : ∀ k, k < n → v.cell? ⟨S k, 6, none⟩ = some (.int .i64 (f k))
  own : ∀ k, k < n → v.cell? ⟨S k, 5, none⟩ = some (.pointer none)
  sC : ∀ k, k < n → isC v (S k)
  tC : ∀ k, k < t → isC v (Tb k)
  inj : ∀ i j, i < n → j < n → S i = S j → i = j
  rsh : v.cell? ⟨rb, 1, none⟩ = some (.pointer sh)
  rse : v.cell? ⟨rb, 11, none⟩ = some (.slice (some ⟨sb, 0, none⟩) n n)
  rtu : v.cell? ⟨rb, 12, none⟩ = some (.slice (some ⟨tb, 0, none⟩) t t)
  rowS : v.ownsRow 0 24 1 (.slice (some ⟨sb, 0, none⟩) n n) n ((List.range n).map fun k => ptr (S k))
  rowT : v.ownsRow 0 24 1 (.slice (some ⟨tb, 0, none⟩) t t) t ((List.range t).map fun k => ptr (Tb k))

section
variable {n t : Nat} {S Tb : Nat → Nat} {f : Nat → Int} {rb sb tb : Nat} {sh : Option Addr} {v v' : World}
theorem Hp.below (h : Hp n t S Tb f rb sb tb sh v) {B : Nat} (hb : Below B v v') (hB : v.heap.size ≤ B) : Hp n t S Tb f rb sb tb sh v' := by
  have c : ∀ {k i : Nat} {u : Value}, v.cell? ⟨k, i, none⟩ = some u → v'.cell? ⟨k, i, none⟩ = some u := fun hc => (hb.cell (Nat.lt_of_lt_of_le (cell_lt hc) hB)).trans hc
  exact ⟨fun k hk => c (h.first k hk), fun k hk => c (h.own k hk), fun k hk => (h.sC k hk).of_heap (hb.block _ (Nat.lt_of_lt_of_le (h.sC k hk).lt hB)), fun k hk => (h.tC k hk).of_heap (hb.block _ (Nat.lt_of_lt_of_le (h.tC k hk).lt hB)), h.inj, c h.rsh, c h.rse, c h.rtu, own_below h.rowS hb hB, own_below h.rowT hb hB⟩

theorem holds_any (h : Hp n t S Tb f rb sb tb sh v) (x : Nat) (hx : x < n) (q : Nat) :
    Calls Yba.prog 9 #[ptr rb, ptr (S x)] (v.drewN q) fun e w' => e = .returned (.int .i64 (hOf sh f x)) ∧ ∃ m, w' = v.drewN m := by
  have c1 := h.rsh
  have c2 := h.first x hx
  have c3 := h.own x hx
  clear h
  cases sh with
  | some a =>
    go_enter Yba.func9, Yba.ntmps9
    go_wp2
    go_ret
    exact ⟨rfl, q, rfl⟩
  | none =>
    go_enter Yba.func9, Yba.ntmps9
    go_wp2
    go_ret
    exact ⟨rfl, q, rfl⟩

theorem less_any (h : Hp n t S Tb f rb sb tb sh v) (rc kc blk c : Nat) (hrc : v.cell? ⟨rc, 0, none⟩ = some (ptr rb)) (hkc : v.cell? ⟨kc, 0, none⟩ = some (.slice (some ⟨blk, 0, none⟩) n c)) (hn : n ≤ 2000)
    (d : Nat → Nat) (hd : ∀ k, k < n → v.cell? ⟨blk, k, none⟩ = some (ptr (S (d k)))) (hr : ∀ k, k < n → d k < n) (x y : Int) (i j : Nat) (hx : x = (i : Int)) (hy : y = (j : Int)) (hi : i < n) (hj : j < n) :
    Calls Yba.prog 8 #[.int .i64 x, .int .i64 y, ptr rc, ptr kc] v fun e w' => e = .returned (.bool (decide (hOf sh f (d j) < hOf sh f (d i)))) ∧ Below v.heap.size v w' := by
  subst hx
  subst hy
  have ci := hd i hi
  have cj := hd j hj
  have hiN : (i : Int) < (n : Int) := by omega
  have hjN : (j : Int) < (n : Int) := by omega
  have Hi := hid (holds_any h (d i) (hr i hi))
  have Hj := hid (holds_any h (d j) (hr j hj))
  clear h hd hr
  generalize hOf sh f (d i) = hvi at *
  generalize hOf sh f (d j) = hvj at *
  generalize S (d i) = si at *
  generalize S (d j) = sj at *
  go_enter Yba.func8, Yba.ntmps8
  go_wp2
  go_quiet (first | (go_at_call_of 9 (ptr si); exact Hi.out _) | (go_at_call_of 9 (ptr sj); exact Hj.out _))
  go_wp2
  go_ret
  exact ⟨rfl, ⟨rfl, rfl, rfl, Nat.le_refl _, fun _ _ => rfl⟩⟩
end
end Go.Proofs.Ybulkcoeq
