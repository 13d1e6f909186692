import Derived.Test.YbulkcntwDoorFrame
import Derived.Laws.AppendOwnNone
namespace Go.Proofs.YbulkcntwDoor
open Go.RowKit
set_option linter.unusedVariables false
set_option linter.unusedSimpArgs false

theorem info_parts {o : Option TypeInfo} {z : Value} {s b : Nat} (h : o.map (fun i => (i.zero, i.size, i.bytes)) = some (some z, s, b)) : ∃ i, o = some i ∧ i.zero = some z ∧ i.size = s ∧ i.bytes = b := by
  obtain ⟨i, hi, he⟩ := Option.map_eq_some_iff.1 h
  simp only [Prod.mk.injEq] at he
  exact ⟨i, hi, he.1, he.2.1, he.2.2⟩
abbrev z43 : Value := .agg #[.int .u64 0, .int .u64 0, .string ⟨#[]⟩]
abbrev z65 : Value := .agg #[.int .u64 0, .int .u64 0, .string ⟨#[]⟩, .int .u64 0, .int .u64 0, .int .u64 0, .int .u64 0]
abbrev z45 : Value := .agg #[.int .u64 0, .int .u64 0, .string ⟨#[]⟩, .int .u64 0, .int .u64 0, .int .i64 0]
abbrev z28 : Value := .agg #[.int .u64 0, .int .u64 0, .bool false]
abbrev z26 : Value := .agg #[.int .u64 0, .int .u64 0]
theorem info43 : (Ybad.prog.info? 43).map (fun i => (i.zero, i.size, i.bytes)) = some (some z43, 3, 32) := by kernel_rfl
theorem info65 : (Ybad.prog.info? 65).map (fun i => (i.zero, i.size, i.bytes)) = some (some z65, 7, 64) := by kernel_rfl
theorem info45 : (Ybad.prog.info? 45).map (fun i => (i.zero, i.size, i.bytes)) = some (some z45, 6, 56) := by kernel_rfl
theorem info28 : (Ybad.prog.info? 28).map (fun i => (i.zero, i.size, i.bytes)) = some (some z28, 3, 24) := by kernel_rfl
theorem info26 : (Ybad.prog.info? 26).map (fun i => (i.zero, i.size, i.bytes)) = some (some z26, 2, 16) := by kernel_rfl
section
variable {v v' : World} {base e size n : Nat} {x : Value} {xs : List Value}
theorem own_some (h : v.ownsRow base e size x n xs) (hn : 0 < n) : ∃ g cap, x = .slice (some ⟨g, 0, none⟩) n cap ∧ base ≤ g ∧ isC v g ∧ n ≤ cap ∧ cap ≤ 9223372036854775807 := by
  rcases h.2 with ⟨_, h0⟩ | ⟨g, cap, cur, h1, h2, h3, h4, h5, _⟩
  · omega
  · exact ⟨g, cap, h1, h2, ⟨_, _, h3⟩, h4, h5⟩
theorem own_form (h : v.ownsRow base e size x n xs) : ∃ p cap, x = .slice p n cap ∧ n ≤ cap ∧ cap ≤ 9223372036854775807 ∧ (0 < n → ∃ g, p = some ⟨g, 0, none⟩ ∧ base ≤ g) := by
  rcases h.2 with ⟨rfl, rfl⟩ | ⟨g, cap, cur, rfl, h0, _, h1, h2, _⟩
  · exact ⟨none, 0, rfl, Nat.le_refl _, by omega, by omega⟩
  · exact ⟨_, cap, rfl, h1, h2, fun _ => ⟨g, rfl, h0⟩⟩
theorem own_below (h : v.ownsRow base e size x n xs) (hb : Below v.heap.size v v') : v'.ownsRow base e size x n xs := by
  refine ⟨h.1, ?_⟩
  rcases h.2 with hn | ⟨g, cap, cur, h1, h2, h3, h4⟩
  · exact .inl hn
  · exact .inr ⟨g, cap, cur, h1, h2, by rw [hb.block g (Array.getElem?_eq_some_iff.1 h3).1]; exact h3, h4⟩
theorem own_base (h : v.ownsRow base e size x n xs) {b' : Nat} (hb : b' ≤ base) : v.ownsRow b' e size x n xs := by
  refine ⟨h.1, ?_⟩
  rcases h.2 with hn | ⟨g, cap, cur, h1, h2, h3⟩
  · exact .inl hn
  · exact .inr ⟨g, cap, cur, h1, by omega, h3⟩
/-- Cells of the row are kept by a change of another block. -/
theorem own_only {b : Nat} (h : v.ownsRow base e size x n xs) (ho : Only b v v') (hb : ∀ k, x.ownBlock = some k → ¬ k = b) : v'.ownsRow base e size x n xs := by
  refine ⟨h.1, ?_⟩
  rcases h.2 with hn | ⟨g, cap, cur, h1, h2, h3, h4⟩
  · exact .inl hn
  · exact .inr ⟨g, cap, cur, h1, h2, by rw [ho.block g (Array.getElem?_eq_some_iff.1 h3).1 (hb g (by rw [h1]; rfl))]; exact h3, h4⟩
end
/-- 'append(s, x...)', s a row of the call's own, x nil or not. -/
theorem wpList_append_own_any {P : Program} (w : World) {ops : Array Oper} {rest : List Oper} {o : Oper} {a : Act} {Q : Exit → Act → World → Prop} (hgd : o.guard = none) (s x : Operand) (t : TypeId)
    (ho : o.op = .call { callee := .builtin .append, args := #[s, x], argTypes := #[t, t] })
    (base : Nat) (e : TypeId) (i : TypeInfo) (z : Value) (size bytes : Nat) (ht : P.underlying t = some (.slice e)) (hi : P.info? e = some i) (hz : i.zero = some z)
    (hsize : i.size = size) (hby : i.bytes = bytes) (hzs : z.cells.size = size) (hsz : 0 < size)
    (v : Value) (n : Nat) (xs : List Value) (hs : a.eval s = v) (hown : w.ownsRow base e size v n xs)
    (ao : Option Addr) (m c : Nat) (news : List Value) (hx : a.eval x = .slice ao m c) (hl : news.length = m * size) (hnone : ao = none → m = 0 ∧ c = 0) (hnews : ∀ ad, ao = some ad → ∀ j u, news[j]? = some u → w.cell? (ad.add j) = some u) (h1 : ∀ u ∈ news, u.oneCell' = true)
    (h63 : n + m ≤ maxLen) (hbytes : (n + m) * bytes ≤ 140737488355328) (hbase : base ≤ w.heap.size)
    (h : ∀ v' w', w'.ownsRow base e size v' (n + m) (xs ++ news) → w.grownBy w' v.ownBlock → (v' = .slice none 0 0 → v = .slice none 0 0) → wpList P ops Q rest (a.put o.dst v') w') : wpList P ops Q (o :: rest) a w := by
  cases ao with
  | some ad => exact wpList_append_own w hgd s x t ho base e i z size bytes ht hi hz hsize hby hzs hsz v n xs hs hown ad m c news hx hl (hnews ad rfl) h1 h63 hbytes hbase (fun v' w' h2 h3 h4 => h v' w' h2 h3 (fun e => (h4.1 e).1))
  | none =>
    obtain ⟨rfl, rfl⟩ := hnone rfl
    have hn : news = [] := List.eq_nil_of_length_eq_zero (by simpa using hl)
    subst hn
    exact wpList_append_own_none hgd s x t ho base e i size ht hi v n xs hs hown hx (h v w (by simpa using hown) (World.grownBy.refl _ _) id)
end Go.Proofs.YbulkcntwDoor
