import Derived.Test.YbulkcoeqStable
import Derived.Shelf.GgSortMore.Stable
import Derived.Shelf.Lay
import Derived.Ground.GgtProg
namespace Go.Proofs
open Go.Shelf Go.RowKit Go.Lib Go.Sort
shelf_lay LaysGt.n8 Ggt 8 at Yba as Yba.sl8
end Go.Proofs
namespace Go.Proofs.Ybulkcoeq
open Go.Shelf Go.RowKit Go.Lib Go.Sort
set_option linter.unusedVariables false
set_option linter.unusedSimpArgs false
noncomputable def siT : TypeInfo := (Yba.prog.info? 23).get (by kernel_rfl)
noncomputable def siE : TypeInfo := (Yba.prog.info? 24).get (by kernel_rfl)
theorem siK (n : Nat) (h2 : 2 ≤ n) : Lib.swapperK n siE 22 = 3 := by
  have a : siE.hasPointers = true := by kernel_rfl
  have b : siE.bytes = 8 := by kernel_rfl
  have c : (n == 0) = false := by simp; omega
  have d : (n == 1) = false := by simp; omega
  simp [Lib.swapperK, a, b, c, d]

/-- What sort.SliceStable is handed: a comparison that only reads. -/
def LessOf (w0 : World) (blk n : Nat) (enc : Nat → Value) (h : Nat → Int) (l0 l1 : Value) : Prop :=
  ∀ (d : Nat → Nat) (v : World) (x y : Int) (i j : Nat), x = (i : Int) → y = (j : Int) → Row w0 blk n enc d v → i < n → j < n →
    Calls Yba.prog 8 #[.int .i64 x, .int .i64 y, l0, l1] v fun e w' => e = .returned (.bool (decide (h (d j) < h (d i)))) ∧ Below v.heap.size v w'

theorem env_of {w0 : World} {blk n c : Nat} {enc : Nat → Value} {h : Nat → Int} {l0 l1 : Value} (hb : blk < w0.heap.size) (hn : n ≤ 2000) (h1 : ∀ x, (enc x).oneCell' = true) (hl : LessOf w0 blk n enc h l0 l1) :
    Env w0 blk n enc h 17 l0 l1 (.slice (some ⟨blk, 0, none⟩) n c) (typeHandle Yba.prog 24) := by
  refine ⟨hb, hn, hl, fun d v x y i j hx hy hR hi hj => ?_⟩
  have hsw := swapSwaps_of_literal (P := Yba.prog) true 17 (fun args W => run_callFunc_extern Yba.func17 (by kernel_rfl) (by kernel_rfl) (by kernel_rfl) (e := Extern.ReflectliteSwapper.swap true) (by kernel_rfl) args W) 24 siE (by kernel_rfl) (by kernel_rfl) (fun _ => by kernel_rfl) enc h1 blk 0 n c
  have hget : ∀ k, k < n → (Array.ofFn (fun k : Fin n => d k))[k]! = d k := fun k hk => by simp [hk]
  have hH : Holds enc v blk 0 (Array.ofFn (fun k : Fin n => d k)) := by
    intro k hk
    have hk' : k < n := by simpa using hk
    rw [hget k hk', Nat.zero_add]
    exact ⟨hR.row k hk', hR.ic.frozen k⟩
  have := hsw v _ hH (by simp) i j hi hj
  rw [hget i hi, hget j hj, Nat.zero_add, Nat.zero_add] at this
  rw [hx, hy]
  exact this

theorem sliceStable_any {w : World} {blk n c : Nat} {enc : Nat → Value} {h : Nat → Int} {l0 l1 : Value} (hn1 : 1 ≤ n) (hn : n ≤ 2000) (h1 : ∀ x, (enc x).oneCell' = true) (hl : LessOf w blk n enc h l0 l1) (hR : Row w blk n enc (fun k => k) w) :
    Calls Yba.prog 7 #[.iface 23 (.slice (some ⟨blk, 0, none⟩) n c), .func (.func 8) #[] #[l0, l1]] w fun e w' => e = .returned (.tuple #[]) ∧ ∃ d', Per n d' ∧ (∀ k, k < n → d' k < n) ∧ Srt h 0 n d' ∧ Row w blk n enc d' w' := by
  have hb := hR.ic.lt
  rcases Nat.lt_or_ge n 2 with h2 | h2
  · obtain rfl : n = 1 := by omega
    have hS := Any.sort_SliceStable_tiny Yba.sl8 23 24 siT siE (by kernel_rfl) (by kernel_rfl) (by kernel_rfl) (by kernel_rfl) 22 (fun _ => by kernel_rfl) (some ⟨blk, 0, none⟩) 1 c (Nat.le_refl _) 16 (by kernel_rfl) (.func 8) #[] #[l0, l1] w
    change Calls Yba.prog 7 _ _ _ at hS
    refine hS.mono fun e w' ⟨he, os, hw⟩ => ⟨he, fun k => k, Sws.refl, fun k hk => hk, fun i j q1 q2 q3 => by omega, ?_⟩
    subst hw
    refine hR.read ⟨rfl, rfl, rfl, by rw [size_grow]; omega, fun k hk => ?_⟩
    show (w.heap ++ os)[k]? = w.heap[k]?
    rw [Array.getElem?_append_left hk]
  · have hS := Any.sort_SliceStable_of_stable Yba.sl8 23 24 siT siE (by kernel_rfl) (by kernel_rfl) (by kernel_rfl) (by kernel_rfl) 22 (fun _ => by kernel_rfl) (some ⟨blk, 0, none⟩) n c (by omega) 17 (by rw [siK n h2]; kernel_rfl) (.func 8) #[] #[l0, l1] w
      (fun w' => ∃ d', Per n d' ∧ (∀ k, k < n → d' k < n) ∧ Srt h 0 n d' ∧ Row w blk n enc d' w') ?_
    · change Calls Yba.prog 7 _ _ _ at hS
      exact hS
    · rw [show sliceBound Yba.prog 24 siE 22 (some ⟨blk, 0, none⟩) n c = #[.slice (some ⟨blk, 0, none⟩) n c, typeHandle Yba.prog 24] by unfold sliceBound; rw [if_neg (swapperK_gt _ _ _ h2)]]
      have hW : ∀ ρ, Row w blk n enc (fun k => k) (stableWorld Yba.prog ρ 23 (some ⟨blk, 0, none⟩) n c w) := fun ρ => by unfold stableWorld; exact (hR.alloc _).alloc _
      exact (stable_any (env_of (c := c) hb hn h1 hl) _ (hW _)).mono fun e w' ⟨he, ⟨d', g1, g2, g3, g4⟩, _⟩ => ⟨he, d', g1, g2, g3, g4⟩
end Go.Proofs.Ybulkcoeq
