import Derived.Test.YbulkcnrsPtr
namespace Go.Proofs.Ybulkcnrs
open Go.RowKit
set_option linter.unusedVariables false
set_option linter.unusedSimpArgs false

attribute [local go_sem] isC_setCell isC_drew isC_alloc isC_new

set_option maxHeartbeats 1600000 in
/-- PushFront(v) -/
theorem pushFront_any (lb fb : Nat) (n : Int) (y : Value) (ob : Nat) (w : World) (hlb : lb < w.heap.size) (hfb : fb < w.heap.size)
    (cl0 : w.cell? ⟨lb, 0, none⟩ = some (pt fb)) (cl4 : w.cell? ⟨lb, 4, none⟩ = some (.int .i64 n)) (cf1 : w.cell? ⟨fb, 1, none⟩ = some y)
    (zl : ∀ i, w.frozen? ⟨lb, i, none⟩ = false) (zf : ∀ i, w.frozen? ⟨fb, i, none⟩ = false) :
    Calls Yba.prog 18 #[pt lb, .iface 53 (pt ob)] w fun e w' => e = .returned (pt w.heap.size) ∧
      w' = (((w.setCell ⟨lb, 0, none⟩ (pt w.heap.size)).setCell ⟨fb, 1, none⟩ (pt w.heap.size)).setCell ⟨lb, 4, none⟩ (.int .i64 (wrap64 (n + 1)))).alloc (.cells #[pt fb, pt lb, pt lb, .iface 53 (pt ob)] 56) := by
  have h1 : ¬ lb = w.heap.size := by omega
  have h2 : ¬ fb = w.heap.size := by omega
  have h1' : ¬ w.heap.size = lb := by omega
  have h2' : ¬ w.heap.size = fb := by omega
  go_enter Yba.func18, Yba.ntmps18
  go_wp2
  go_end0
  go_wp2
  go_ret
  exact ⟨rfl, rfl⟩

set_option maxHeartbeats 1600000 in
/-- move(e, &l.root), e not the first -/
theorem move_any (lb eb fb pb nb : Nat) (y0 y1 y2 y3 : Value) (w : World) (h1 : ¬ eb = lb) (h1' : ¬ lb = eb) (h2 : ¬ eb = fb) (h2' : ¬ fb = eb) (h3 : ¬ pb = eb) (h3' : ¬ eb = pb) (h4 : ¬ nb = eb) (h4' : ¬ eb = nb) (h5 : ¬ pb = lb) (h5' : ¬ lb = pb) (h6 : ¬ nb = fb) (h6' : ¬ fb = nb)
    (ce0 : w.cell? ⟨eb, 0, none⟩ = some (pt nb)) (ce1 : w.cell? ⟨eb, 1, none⟩ = some (pt pb)) 
    (cl0 : w.cell? ⟨lb, 0, none⟩ = some (pt fb)) (cp0 : w.cell? ⟨pb, 0, none⟩ = some y0) (cn1 : w.cell? ⟨nb, 1, none⟩ = some y1) (cf1 : w.cell? ⟨fb, 1, none⟩ = some y2)
    (ie : isC w eb) (il : isC w lb) (iF : isC w fb) (ip : isC w pb) (iN : isC w nb) :
    Calls Yba.prog 24 #[pt lb, pt eb, pt lb] w fun e w' => e = .returned (.tuple #[]) ∧
      w' = ((((((w.setCell ⟨pb, 0, none⟩ (pt nb)).setCell ⟨nb, 1, none⟩ (pt pb)).setCell ⟨eb, 1, none⟩ (pt lb)).setCell ⟨eb, 0, none⟩ (pt fb)).setCell ⟨lb, 0, none⟩ (pt eb)).setCell ⟨fb, 1, none⟩ (pt eb)).drew.drew := by
  have ze := ie.frozen
  have zl := il.frozen
  have zf := iF.frozen
  have zp := ip.frozen
  have zn := iN.frozen
  have e51 := eql51
  go_enter Yba.func24, Yba.ntmps24
  go_wp2
  go_region
  all_goals (go_wp2; go_region)
  all_goals go_wp2
  all_goals (go_end0; exact ⟨rfl, rfl⟩)

set_option maxHeartbeats 1600000 in
/-- MoveToFront(e), e not the first -/
theorem moveToFront_later (lb eb fb pb nb : Nat) (y0 y1 y2 y3 : Value) (w : World) (h1 : ¬ eb = lb) (h1' : ¬ lb = eb) (h2 : ¬ eb = fb) (h2' : ¬ fb = eb) (h3 : ¬ pb = eb) (h3' : ¬ eb = pb) (h4 : ¬ nb = eb) (h4' : ¬ eb = nb) (h5 : ¬ pb = lb) (h5' : ¬ lb = pb) (h6 : ¬ nb = fb) (h6' : ¬ fb = nb)
    (ce0 : w.cell? ⟨eb, 0, none⟩ = some (pt nb)) (ce1 : w.cell? ⟨eb, 1, none⟩ = some (pt pb)) (ce2 : w.cell? ⟨eb, 2, none⟩ = some (pt lb)) 
    (cl0 : w.cell? ⟨lb, 0, none⟩ = some (pt fb)) (cp0 : w.cell? ⟨pb, 0, none⟩ = some y0) (cn1 : w.cell? ⟨nb, 1, none⟩ = some y1) (cf1 : w.cell? ⟨fb, 1, none⟩ = some y2)
    (ie : isC w eb) (il : isC w lb) (iF : isC w fb) (ip : isC w pb) (iN : isC w nb) :
    Calls Yba.prog 17 #[pt lb, pt eb] w fun e w' => e = .returned (.tuple #[]) ∧
      w' = ((((((w.setCell ⟨pb, 0, none⟩ (pt nb)).setCell ⟨nb, 1, none⟩ (pt pb)).setCell ⟨eb, 1, none⟩ (pt lb)).setCell ⟨eb, 0, none⟩ (pt fb)).setCell ⟨lb, 0, none⟩ (pt eb)).setCell ⟨fb, 1, none⟩ (pt eb)).drew.drew := by
  have e51 := eql51
  have n46 := neq46
  go_enter Yba.func17, Yba.ntmps17
  go_wp2_with (go_at_call 24; refine (move_any lb eb fb pb nb y0 y1 y2 y3 _ h1 h1' h2 h2' h3 h3' h4 h4' h5 h5' h6 h6' ce0 ce1 cl0 cp0 cn1 cf1 ie il iF ip iN).mono ?_; rintro e w' ⟨rfl, rfl⟩)
  all_goals (go_end0; exact ⟨rfl, rfl⟩)

set_option maxHeartbeats 1600000 in
/-- MoveToFront(e), e the first -/
theorem moveToFront_first (lb eb : Nat) (w : World) 
    (ce2 : w.cell? ⟨eb, 2, none⟩ = some (pt lb)) (cl0 : w.cell? ⟨lb, 0, none⟩ = some (pt eb)) 
    (ie : isC w eb) (il : isC w lb) :
    Calls Yba.prog 17 #[pt lb, pt eb] w fun e w' => e = .returned (.tuple #[]) ∧ w' = w := by
  have e51 := eql51
  have n46 := neq46
  go_enter Yba.func17, Yba.ntmps17
  go_wp2
  all_goals (refine bodyPost_ret (results_none rfl _ _ _) rfl ?_; exact ⟨rfl, rfl⟩)

set_option maxHeartbeats 1600000 in
/-- remove(e) -/
theorem remove_any (lb eb pb nb : Nat) (n : Int) (y0 y1 y2 y3 : Value) (w : World) (h1 : ¬ eb = lb) (h1' : ¬ lb = eb) (h3 : ¬ pb = eb) (h3' : ¬ eb = pb) (h4 : ¬ nb = eb) (h4' : ¬ eb = nb)
    (ce0 : w.cell? ⟨eb, 0, none⟩ = some (pt nb)) (ce1 : w.cell? ⟨eb, 1, none⟩ = some (pt pb)) (ce2 : w.cell? ⟨eb, 2, none⟩ = some y2)
    (cl4 : w.cell? ⟨lb, 4, none⟩ = some (.int .i64 n)) (cp0 : w.cell? ⟨pb, 0, none⟩ = some y0) (cn1 : w.cell? ⟨nb, 1, none⟩ = some y1)
    (ie : isC w eb) (il : isC w lb) (ip : isC w pb) (iN : isC w nb) :
    Calls Yba.prog 27 #[pt lb, pt eb] w fun e w' => e = .returned (.tuple #[]) ∧
      w' = ((((((w.setCell ⟨pb, 0, none⟩ (pt nb)).setCell ⟨nb, 1, none⟩ (pt pb)).setCell ⟨eb, 0, none⟩ (.pointer none)).setCell ⟨eb, 1, none⟩ (.pointer none)).setCell ⟨eb, 2, none⟩ (.pointer none)).setCell ⟨lb, 4, none⟩ (.int .i64 (wrap64 (n - 1)))).drew.drew := by
  have ze := ie.frozen
  have zl := il.frozen
  have zp := ip.frozen
  have zn := iN.frozen
  go_enter Yba.func27, Yba.ntmps27
  go_wp2
  go_region
  all_goals (go_wp2; go_region)
  all_goals go_wp2
  all_goals (go_end0; exact ⟨rfl, rfl⟩)
end Go.Proofs.Ybulkcnrs
