import Derived.Test.YbulkcnrsNew
import Derived.Test.YbulkcnrsFront
namespace Go.Proofs.Ybulkcnrs
open Go.RowKit Go.Maps Go.ChangeMaps Go.MuLone
set_option linter.unusedVariables false
set_option linter.unusedSimpArgs false
attribute [local go_sem] isC_setCell isC_drew isC_allocs

set_option maxHeartbeats 800000 in
theorem lenL_any (lb : Nat) (n : Int) (w : World) (c4 : w.cell? ⟨lb, 4, none⟩ = some (.int .i64 n)) :
    Calls Yba.prog 11 #[pt lb] w fun e w' => e = .returned (.int .i64 n) ∧ w' = w := by
  go_enter Yba.func11, Yba.ntmps11
  go_wp2
  go_ret
  exact ⟨rfl, rfl⟩

set_option maxHeartbeats 800000 in
theorem frontL_some (lb eb : Nat) (n : Int) (w : World) (hn : ¬ n = 0) (c4 : w.cell? ⟨lb, 4, none⟩ = some (.int .i64 n)) (c0 : w.cell? ⟨lb, 0, none⟩ = some (pt eb)) :
    Calls Yba.prog 12 #[pt lb] w fun e w' => e = .returned (pt eb) ∧ w' = w := by
  have hb : (n == 0) = false := by simpa using hn
  clear hn
  go_enter Yba.func12, Yba.ntmps12
  go_wp2
  go_ret
  exact ⟨rfl, rfl⟩

set_option maxHeartbeats 800000 in
theorem frontL_none (lb : Nat) (w : World) (c4 : w.cell? ⟨lb, 4, none⟩ = some (.int .i64 0)) :
    Calls Yba.prog 12 #[pt lb] w fun e w' => e = .returned (.pointer none) ∧ w' = w := by
  go_enter Yba.func12, Yba.ntmps12
  go_wp2
  go_ret
  exact ⟨rfl, rfl⟩

set_option maxHeartbeats 1600000 in
theorem nextL_some (lb eb nb : Nat) (w : World) (h : ¬ nb = lb) (c0 : w.cell? ⟨eb, 0, none⟩ = some (pt nb)) (c2 : w.cell? ⟨eb, 2, none⟩ = some (pt lb)) (il : isC w lb) (iN : isC w nb) :
    Calls Yba.prog 13 #[pt eb] w fun e w' => e = .returned (pt nb) ∧ w' = w := by
  have n51 := neq51
  go_enter Yba.func13, Yba.ntmps13
  go_wp2
  go_ret
  exact ⟨rfl, rfl⟩

set_option maxHeartbeats 1600000 in
theorem nextL_none (lb eb : Nat) (w : World) (c0 : w.cell? ⟨eb, 0, none⟩ = some (pt lb)) (c2 : w.cell? ⟨eb, 2, none⟩ = some (pt lb)) (il : isC w lb) :
    Calls Yba.prog 13 #[pt eb] w fun e w' => e = .returned (.pointer none) ∧ w' = w := by
  have n51 := neq51
  go_enter Yba.func13, Yba.ntmps13
  go_wp2
  go_ret
  exact ⟨rfl, rfl⟩

/-- The j-th element's address; nil behind the last. -/
def ptAt : List Ent → Nat → Value
  | [], _ => .pointer none
  | x :: _, 0 => pt x.eb
  | _ :: r, j + 1 => ptAt r j

theorem ptAt_len : ∀ L : List Ent, ptAt L L.length = .pointer none
  | [] => rfl
  | _ :: r => ptAt_len r
theorem ptAt_append : ∀ (A B : List Ent) (j : Nat), ptAt (A ++ B) (A.length + j) = ptAt B j
  | [], B, j => by simp
  | a :: A, B, j => by
    have := ptAt_append A B j
    simp only [List.cons_append, List.length_cons]
    rw [show A.length + 1 + j = (A.length + j) + 1 from by omega]
    exact this

theorem LSt.front {w : World} {lb mb : Nat} {L : List Ent} (h : LSt w lb mb L) : Calls Yba.prog 12 #[pt lb] w fun e w' => e = .returned (ptAt L 0) ∧ w' = w := by
  cases L with
  | nil => exact frontL_none lb w h.len
  | cons x r => exact frontL_some lb x.eb _ w (by simp; omega) h.len h.ring.1

theorem LSt.next {w : World} {lb mb : Nat} {A B : List Ent} {x : Ent} (h : LSt w lb mb (A ++ x :: B)) : Calls Yba.prog 13 #[pt x.eb] w fun e w' => e = .returned (ptAt (A ++ x :: B) (A.length + 1)) ∧ w' = w := by
  have h1 := h.ring
  rw [nodes_split] at h1
  have e1 : lb :: (A.map Ent.eb ++ x.eb :: B.map Ent.eb ++ [lb]) = (lb :: A.map Ent.eb) ++ x.eb :: (B.map Ent.eb ++ [lb]) := by simp
  rw [e1] at h1
  have h2 := ((linked_split _ _ _).1 h1).2
  have hx := h.el x (by simp)
  rw [ptAt_append]
  cases B with
  | nil =>
    simp only [List.map_nil, List.nil_append] at h2
    exact nextL_none lb x.eb w h2.1 hx.c2 h.tl.isC
  | cons y r =>
    simp only [List.map_cons, List.cons_append] at h2
    have hy := h.el y (by simp)
    refine nextL_some lb x.eb y.eb w ?_ h2.1 hx.c2 h.tl.isC hy.te.isC
    intro he
    exact h.lb_notin (by rw [← he]; simp)

theorem mAt.shape2 {w : World} {base : Nat} {v : Value} {L : List Ent} (h : mAt w base v L) : ∃ am mc, v = .slice am L.length mc ∧ (0 < L.length → ∃ g, am = some ⟨g, 0, none⟩) := by
  rcases h.shape with ⟨rfl, rfl⟩ | ⟨g, cap, rfl, _, _⟩
  · exact ⟨none, 0, rfl, by simp⟩
  · exact ⟨_, cap, rfl, fun _ => ⟨g, rfl⟩⟩
end Go.Proofs.Ybulkcnrs
