import Derived.Test.YbulkcntiRead
namespace Go.Proofs.Ybulkcnti
open Go.RowKit
set_option linter.unusedVariables false
set_option linter.unusedSimpArgs false

set_option maxHeartbeats 3200000 in
theorem dirStart_any (b n cap : Nat) (l : List Int) (w : World) (hp : Pg w b n cap l) :
    Calls Yba.prog 12 #[nd b n cap] w fun e w' => e = .returned (.int .i64 ((n : Int) - 4 - get2 l 12 * 2)) ∧ Below w.heap.size w w' := by
  have hn1 := hp.big
  have hn2 := hp.small
  have hr := hp.rng 12
  have r0 := hr.1
  have r1 := hr.2
  have hRS := RS.start (n := n) (cap := cap) hp.buf
  have HC := hid (fun W (h : (W.cell? ⟨w.heap.size, 0, none⟩ = some (.slice (some ⟨b, 0, none⟩) n cap) ∧ RS w w.heap.size b n cap l W)) => trailer_any b n cap l W (hp.of_RS h.2))
  have HD := hid (fun W (h : (W.cell? ⟨w.heap.size, 0, none⟩ = some (.slice (some ⟨b, 0, none⟩) n cap) ∧ RS w w.heap.size b n cap l W)) => slots_any b n cap l W (hp.of_RS h.2))
  generalize get2 l 12 = g at *
  clear hr hp
  go_enter Yba.func12, Yba.ntmps12
  go_wp2_with fail
  go_region_held3 (fun w' => w'.cell? ⟨w.heap.size, 0, none⟩ = some (.slice (some ⟨b, 0, none⟩) n cap) ∧ RS w w.heap.size b n cap l w') (first | (refine RS.bothDrew ?_; assumption) | (refine RS.bothStep ?_ hb2; assumption) | (refine RS.bothStep ?_ hb1; assumption)) (first | (go_at_call 24; refine Calls.mono (HC.out _ ?_) ?_; assumption; rintro e w1 ⟨rfl, hb1⟩) | (go_at_call 25; refine Calls.mono (HD.out _ ?_) ?_; assumption; rintro e w2 ⟨rfl, hb2⟩))
  rename_i hHeld
  rw [i64w (g * 2) (by omega), i64w ((n : Int) - 4 - g * 2) (by omega)]
  go_wp2
  go_ret
  exact ⟨rfl, hHeld.2.below⟩

set_option maxHeartbeats 3200000 in
theorem lengths_any (b n cap r : Nat) (x : Int) (l : List Int) (w : World) (hx : x = r) (hp : Pg w b n cap l) (hr : r + 8 < n) :
    Calls Yba.prog 27 #[nd b n cap, .int .i64 x] w fun e w' => e = .returned (.tuple #[.int .i64 (get2 l (r + 5)), .int .i64 (get2 l (r + 7))]) ∧ Below w.heap.size w w' := by
  subst hx
  have hn1 := hp.big
  have hn2 := hp.small
  have hRS := RS.start (n := n) (cap := cap) hp.buf
  have HC := hid (fun W (h : (W.cell? ⟨w.heap.size, 0, none⟩ = some (.slice (some ⟨b, 0, none⟩) n cap) ∧ RS w w.heap.size b n cap l W)) => u16_any b n cap (r + 5) (IntKind.i64.wrap ((r : Int) + 5)) l W (by rw [i64w _ (by omega)]; omega) h.2.buf hp.len hp.fit hp.fitm (by omega))
  have HD := hid (fun W (h : (W.cell? ⟨w.heap.size, 0, none⟩ = some (.slice (some ⟨b, 0, none⟩) n cap) ∧ RS w w.heap.size b n cap l W)) => u16_any b n cap (r + 7) (IntKind.i64.wrap ((r : Int) + 7)) l W (by rw [i64w _ (by omega)]; omega) h.2.buf hp.len hp.fit hp.fitm (by omega))
  generalize get2 l (r + 5) = g1 at *
  generalize get2 l (r + 7) = g2 at *
  clear hp
  go_enter Yba.func27, Yba.ntmps27
  go_wp2_with fail
  go_region_held3 (fun w' => w'.cell? ⟨w.heap.size, 0, none⟩ = some (.slice (some ⟨b, 0, none⟩) n cap) ∧ RS w w.heap.size b n cap l w') (first | (refine RS.bothDrew ?_; assumption) | (refine RS.bothStep ?_ hb2; assumption) | (refine RS.bothStep ?_ hb1; assumption)) (first | (go_at_call 14; with_reducible (refine Calls.mono (HC.out _ ?_) ?_); assumption; rintro e w1 ⟨rfl, hb1⟩) | (go_at_call 14; with_reducible (refine Calls.mono (HD.out _ ?_) ?_); assumption; rintro e w2 ⟨rfl, hb2⟩))
  rename_i hHeld
  go_wp2
  go_ret2
  exact ⟨rfl, hHeld.2.below⟩

set_option maxHeartbeats 3200000 in
theorem recordSize_any (b n cap r : Nat) (x : Int) (l : List Int) (w : World) (hx : x = r) (hp : Pg w b n cap l) (hr : r + 8 < n) :
    Calls Yba.prog 16 #[nd b n cap, .int .i64 x] w fun e w' => e = .returned (.int .i64 ((if l.getD 0 0 = 1 then 17 else 9) + get2 l (r + 5) + get2 l (r + 7))) ∧ Below w.heap.size w w' := by
  have hn1 := hp.big
  have hn2 := hp.small
  have hRS := RS.start (n := n) (cap := cap) hp.buf
  have HC := hid (lengths_any b n cap r x l _ hx (hp.of_RS hRS) hr)
  have HD := hid (fun W (h : RS w w.heap.size b n cap l W) => keyOffset_any b n cap l W (hp.of_RS h))
  have h1 := hp.rng (r + 5)
  have h2 := hp.rng (r + 7)
  have hk : (0 : Int) ≤ (if l.getD 0 0 = 1 then 17 else 9) ∧ (if l.getD 0 0 = 1 then 17 else 9) ≤ (17 : Int) := by split <;> omega
  generalize get2 l (r + 5) = g1 at *
  generalize get2 l (r + 7) = g2 at *
  generalize (if l.getD 0 0 = 1 then 17 else 9 : Int) = g0 at *
  have HB := hid hRS
  have u0 := hk.1
  have u1 := hk.2
  have v0 := h1.1
  have v1 := h1.2
  have t0 := h2.1
  have t1 := h2.2
  clear hRS hp hx
  go_enter Yba.func16, Yba.ntmps16
  go_wp2_with (first | (go_at_call 27; refine Calls.mono HC.out ?_; rintro e w1 ⟨rfl, hb1⟩; have hRS1 := HB.out.step hb1; have box1 := hRS1.box) | (go_at_call 28; refine Calls.mono (HD.out _ hRS1) ?_; rintro e w2 ⟨rfl, hb2⟩))
  go_ret
  exact ⟨rfl, (RS.step ‹_› ‹_›).below⟩

end Go.Proofs.Ybulkcnti
