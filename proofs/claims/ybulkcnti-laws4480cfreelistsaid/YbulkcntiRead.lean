import Derived.Test.YbulkcntiBuf
namespace Go.Proofs.Ybulkcnti
open Go.RowKit
set_option linter.unusedVariables false
set_option linter.unusedSimpArgs false

/-- What a page must be for its methods to be called. -/
structure Pg (w : World) (b n cap : Nat) (l : List Int) : Prop where
  buf : bufAt w b l
  len : n = l.length
  fit : n ≤ cap
  fitm : cap ≤ 9223372036854775807
  big : 64 ≤ n
  small : n ≤ 65535

theorem Pg.of_RS {w0 w W : World} {bx b n cap : Nat} {l : List Int} (h : Pg w b n cap l) (k : RS w0 bx b n cap l W) : Pg W b n cap l := ⟨k.buf, h.len, h.fit, h.fitm, h.big, h.small⟩
theorem Pg.below {w w' : World} {b n cap : Nat} {l : List Int} (h : Pg w b n cap l) (k : Below w.heap.size w w') : Pg w' b n cap l := ⟨h.buf.below k, h.len, h.fit, h.fitm, h.big, h.small⟩

theorem getD_rng {l : List Int} (h : ∀ x ∈ l, 0 ≤ x ∧ x ≤ 255) (o : Nat) : 0 ≤ l.getD o 0 ∧ l.getD o 0 ≤ 255 := by
  by_cases ho : o < l.length
  · rw [List.getD_eq_getElem?_getD, List.getElem?_eq_getElem ho]
    exact h _ (List.getElem_mem ho)
  · rw [List.getD_eq_getElem?_getD, List.getElem?_eq_none (by omega)]
    simp
theorem Pg.rng {w : World} {b n cap : Nat} {l : List Int} (h : Pg w b n cap l) (o : Nat) : 0 ≤ get2 l o ∧ get2 l o ≤ 65535 := by
  have h1 := getD_rng h.buf.rng o
  have h2 := getD_rng h.buf.rng (o + 1)
  unfold get2
  omega

set_option maxHeartbeats 1600000 in
theorem heapTop_any (b n cap : Nat) (l : List Int) (w : World) (hp : Pg w b n cap l) :
    Calls Yba.prog 13 #[nd b n cap] w fun e w' => e = .returned (.int .i64 (get2 l 6)) ∧ Below w.heap.size w w' := by
  have hRS := RS.start (n := n) (cap := cap) hp.buf
  have HC := hid (u16_any b n cap 6 6 l _ rfl hRS.buf hp.len hp.fit hp.fitm (by have := hp.big; omega))
  have HB := hid hRS
  clear hRS
  go_enter Yba.func13, Yba.ntmps13
  go_wp2_with (go_at_call 14; refine Calls.mono HC.out ?_; rintro e w' ⟨rfl, hb'⟩)
  go_ret
  exact ⟨rfl, (HB.out.step ‹_›).below⟩

set_option maxHeartbeats 1600000 in
theorem garbage_any (b n cap : Nat) (l : List Int) (w : World) (hp : Pg w b n cap l) :
    Calls Yba.prog 20 #[nd b n cap] w fun e w' => e = .returned (.int .i64 (get2 l 10)) ∧ Below w.heap.size w w' := by
  have hRS := RS.start (n := n) (cap := cap) hp.buf
  have HC := hid (u16_any b n cap 10 10 l _ rfl hRS.buf hp.len hp.fit hp.fitm (by have := hp.big; omega))
  have HB := hid hRS
  clear hRS
  go_enter Yba.func20, Yba.ntmps20
  go_wp2_with (go_at_call 14; refine Calls.mono HC.out ?_; rintro e w' ⟨rfl, hb'⟩)
  go_ret
  exact ⟨rfl, (HB.out.step ‹_›).below⟩

set_option maxHeartbeats 1600000 in
theorem slots_any (b n cap : Nat) (l : List Int) (w : World) (hp : Pg w b n cap l) :
    Calls Yba.prog 25 #[nd b n cap] w fun e w' => e = .returned (.int .i64 (get2 l 12)) ∧ Below w.heap.size w w' := by
  have hRS := RS.start (n := n) (cap := cap) hp.buf
  have HC := hid (u16_any b n cap 12 12 l _ rfl hRS.buf hp.len hp.fit hp.fitm (by have := hp.big; omega))
  have HB := hid hRS
  clear hRS
  go_enter Yba.func25, Yba.ntmps25
  go_wp2_with (go_at_call 14; refine Calls.mono HC.out ?_; rintro e w' ⟨rfl, hb'⟩)
  go_ret
  exact ⟨rfl, (HB.out.step ‹_›).below⟩

set_option maxHeartbeats 1600000 in
theorem trailer_any (b n cap : Nat) (l : List Int) (w : World) (hp : Pg w b n cap l) :
    Calls Yba.prog 24 #[nd b n cap] w fun e w' => e = .returned (.int .i64 ((n : Int) - 4)) ∧ Below w.heap.size w w' := by
  have hn1 := hp.big
  have hn2 := hp.small
  go_enter Yba.func24, Yba.ntmps24
  go_wp2
  go_ret
  first
    | exact ⟨rfl, (Below.refl _ _).alloc (Nat.le_refl _) _⟩
    | (rw [i64w ((n : Int) - 4) (by omega)]; exact ⟨rfl, (Below.refl _ _).alloc (Nat.le_refl _) _⟩)

set_option maxHeartbeats 1600000 in
theorem next_any (b n cap r : Nat) (x : Int) (l : List Int) (w : World) (hx : x = r) (hp : Pg w b n cap l) (hr : r + 4 < n) :
    Calls Yba.prog 15 #[nd b n cap, .int .i64 x] w fun e w' => e = .returned (.int .i64 (get2 l (r + 3))) ∧ Below w.heap.size w w' := by
  subst hx
  have hRS := RS.start (n := n) (cap := cap) hp.buf
  have HC := hid (u16_any b n cap (r + 3) ((r : Int) + 3) l _ (by omega) hRS.buf hp.len hp.fit hp.fitm (by omega))
  have HB := hid hRS
  have hn2 := hp.small
  clear hRS
  go_enter Yba.func15, Yba.ntmps15
  go_wp2_with (go_at_call 14; refine Calls.mono HC.out ?_; rintro e w' ⟨rfl, hb'⟩)
  go_ret
  exact ⟨rfl, (HB.out.step ‹_›).below⟩

set_option maxHeartbeats 1600000 in
theorem heapNumber_any (b n cap r : Nat) (x : Int) (l : List Int) (w : World) (hx : x = r) (hp : Pg w b n cap l) (hr : r + 2 < n) :
    Calls Yba.prog 19 #[nd b n cap, .int .i64 x] w fun e w' => e = .returned (.int .i64 (get2 l (r + 1))) ∧ Below w.heap.size w w' := by
  subst hx
  have hRS := RS.start (n := n) (cap := cap) hp.buf
  have HC := hid (u16_any b n cap (r + 1) ((r : Int) + 1) l _ (by omega) hRS.buf hp.len hp.fit hp.fitm (by omega))
  have HB := hid hRS
  have hn2 := hp.small
  clear hRS
  go_enter Yba.func19, Yba.ntmps19
  go_wp2_with (go_at_call 14; refine Calls.mono HC.out ?_; rintro e w' ⟨rfl, hb'⟩)
  go_ret
  exact ⟨rfl, (HB.out.step ‹_›).below⟩

set_option maxHeartbeats 1600000 in
theorem Kind_any (b n cap : Nat) (l : List Int) (w : World) (hp : Pg w b n cap l) :
    Calls Yba.prog 29 #[nd b n cap] w fun e w' => e = .returned (.int .u8 (l.getD 0 0)) ∧ Below w.heap.size w w' := by
  have hn1 := hp.big
  have hn2 := hp.small
  have h0 : 0 < l.length := by have := hp.len; omega
  have c0 := hp.buf.cell 0 h0
  have e0 : l.getD 0 0 = l[0] := by simp [h0]
  rw [e0]
  generalize l[0] = y0 at *
  have bl := hp.buf.ic.lt
  have hn0 : 0 < n := by omega
  clear e0
  go_enter Yba.func29, Yba.ntmps29
  go_wp2
  go_ret
  exact ⟨rfl, (Below.refl _ _).alloc (Nat.le_refl _) _⟩

set_option maxHeartbeats 1600000 in
theorem keyOffset_any (b n cap : Nat) (l : List Int) (w : World) (hp : Pg w b n cap l) :
    Calls Yba.prog 28 #[nd b n cap] w fun e w' => e = .returned (.int .i64 (if l.getD 0 0 = 1 then 17 else 9)) ∧ Below w.heap.size w w' := by
  have hRS := RS.start (n := n) (cap := cap) hp.buf
  have HC := hid (Kind_any b n cap l _ (hp.of_RS hRS))
  have HB := hid hRS
  clear hRS
  by_cases hk : l.getD 0 0 = 1
  · rw [if_pos hk]
    rw [hk] at HC
    go_enter Yba.func28, Yba.ntmps28
    go_wp2_with (go_at_call 29; refine Calls.mono HC.out ?_; rintro e w' ⟨rfl, hb'⟩)
    go_ret
    exact ⟨rfl, (HB.out.step ‹_›).below⟩
  · rw [if_neg hk]
    generalize l.getD 0 0 = y0 at *
    go_enter Yba.func28, Yba.ntmps28
    go_wp2_with (go_at_call 29; refine Calls.mono HC.out ?_; rintro e w' ⟨rfl, hb'⟩)
    go_ret
    exact ⟨rfl, (HB.out.step ‹_›).below⟩
end Go.Proofs.Ybulkcnti
