import Derived.Test.YbulkcntiWrite
namespace Go.Proofs.Ybulkcnti
open Go.RowKit
set_option linter.unusedVariables false
set_option linter.unusedSimpArgs false

theorem u16w (n : Int) (h : 0 ≤ n ∧ n ≤ 65535) : IntKind.u16.wrap n = n := by
  have : n % 65536 = n := by omega
  simp [IntKind.wrap, IntKind.bits, IntKind.signed, this]
theorem u8w (n : Int) (h : 0 ≤ n ∧ n ≤ 255) : IntKind.u8.wrap n = n := by
  have : n % 256 = n := by omega
  simp [IntKind.wrap, IntKind.bits, IntKind.signed, this]
theorem put_put (l : List Int) (o : Nat) (v : Int) : put (put l o v) o v = put l o v := by
  unfold put
  rw [List.set_comm (lo8 v) (hi8 v) (by omega : o + 1 ≠ o), List.set_set]
  rw [List.set_set]

/-- What stands while a method writes: the page as it was, or as it will be. -/
structure WS (w0 : World) (bx b n cap : Nat) (l l' : List Int) (w : World) : Prop where
  box : w.cell? ⟨bx, 0, none⟩ = some (.slice (some ⟨b, 0, none⟩) n cap)
  only : Only b w0 w
  buf : bufAt w b l ∨ bufAt w b l'
  blt : bx < w.heap.size
  bne : ¬ bx = b

abbrev WSB (w0 : World) (bx b n cap : Nat) (l l' : List Int) (w : World) : Prop := w.cell? ⟨bx, 0, none⟩ = some (.slice (some ⟨b, 0, none⟩) n cap) ∧ WS w0 bx b n cap l l' w

theorem WS.drew {w0 w : World} {bx b n cap : Nat} {l l' : List Int} (h : WS w0 bx b n cap l l' w) : w.drew.cell? ⟨bx, 0, none⟩ = some (.slice (some ⟨b, 0, none⟩) n cap) ∧ WS w0 bx b n cap l l' w.drew :=
  ⟨h.box, h.box, h.only.drew, h.buf.elim (fun k => .inl (k.kept rfl)) (fun k => .inr (k.kept rfl)), h.blt, h.bne⟩
theorem WS.read {w0 w w' : World} {bx b n cap : Nat} {l l' : List Int} (h : w.cell? ⟨bx, 0, none⟩ = some (.slice (some ⟨b, 0, none⟩) n cap) ∧ WS w0 bx b n cap l l' w) (hb : Below w.heap.size w w') : w'.cell? ⟨bx, 0, none⟩ = some (.slice (some ⟨b, 0, none⟩) n cap) ∧ WS w0 bx b n cap l l' w' := by
  have hc := (cell_heap (i := 0) (hb.block bx h.2.blt)).trans h.1
  exact ⟨hc, hc, h.2.only.trans (.of_below hb), h.2.buf.elim (fun k => .inl (k.below hb)) (fun k => .inr (k.below hb)), Nat.lt_of_lt_of_le h.2.blt hb.size, h.2.bne⟩
theorem WS.wrote {w0 w w' : World} {bx b n cap : Nat} {l l' : List Int} (h : w.cell? ⟨bx, 0, none⟩ = some (.slice (some ⟨b, 0, none⟩) n cap) ∧ WS w0 bx b n cap l l' w) (ho : Only b w w') (hb : bufAt w' b l') : w'.cell? ⟨bx, 0, none⟩ = some (.slice (some ⟨b, 0, none⟩) n cap) ∧ WS w0 bx b n cap l l' w' := by
  have hc := (ho.cell (i := 0) h.2.blt h.2.bne).trans h.1
  exact ⟨hc, hc, h.2.only.trans ho, .inr hb, Nat.lt_of_lt_of_le h.2.blt ho.size, h.2.bne⟩
theorem WS.start {w : World} {b n cap : Nat} {l l' : List Int} (h : bufAt w b l) : WS w w.heap.size b n cap l l' (w.alloc (.cells #[.slice (some ⟨b, 0, none⟩) n cap] 25)) :=
  ⟨by rw [World.cell?_alloc_new]; rfl, (Only.refl _ _).alloc _, .inl (h.kept (Below.heap_alloc _ _ _ h.ic.lt)), by simp, by have := h.ic.lt; omega⟩

theorem ow_drew {w w' : World} {b : Nat} {l l' : List Int} (h : Only b w w' ∧ (bufAt w' b l ∨ bufAt w' b l')) : Only b w w'.drew ∧ (bufAt w'.drew b l ∨ bufAt w'.drew b l') :=
  ⟨h.1.drew, h.2.elim (fun k => .inl (k.kept rfl)) (fun k => .inr (k.kept rfl))⟩
theorem ow_wrote {w w' w2 : World} {b : Nat} {l l' : List Int} (h : Only b w w' ∧ (bufAt w' b l ∨ bufAt w' b l')) (ho : Only b w' w2) (hb : bufAt w2 b l') : Only b w w2 ∧ (bufAt w2 b l ∨ bufAt w2 b l') := ⟨h.1.trans ho, .inr hb⟩

theorem PutUint16_buf (b o m c : Nat) (v : Int) (l l' : List Int) (w : World) (hm : 2 ≤ m) (hv0 : 0 ≤ v) (hv1 : v ≤ 65535) (hl' : l' = put l o v) (hb : bufAt w b l ∨ bufAt w b l') (ho : o + 1 < l.length) :
    Calls Yba.prog 21 #[.agg #[], .slice (some ⟨b, o, none⟩) m c, .int .u16 v] w fun e w' => e = .returned (.tuple #[]) ∧ Only b w w' ∧ bufAt w' b l' := by
  have key : ∀ k : List Int, put k o v = l' → k.length = l.length → bufAt w b k → Calls Yba.prog 21 #[.agg #[], .slice (some ⟨b, o, none⟩) m c, .int .u16 v] w fun e w' => e = .returned (.tuple #[]) ∧ Only b w w' ∧ bufAt w' b l' := by
    intro k hk hkl hkb
    refine Calls.mono (PutUint16_any b o m c v _ _ w hm hv0 hv1 hkb.ic (hkb.cell o (by omega)) (hkb.cell (o + 1) (by omega))) ?_
    rintro e w' ⟨rfl, rfl⟩
    have h1 := hkb.put o (by omega) v ⟨hv0, hv1⟩
    refine ⟨rfl, (((Only.refl _ _).setCell _ _).setCell _ _).alloc _, ?_⟩
    rw [hk] at h1
    exact h1.kept (Below.heap_alloc _ _ _ h1.ic.lt)
  rcases hb with h | h
  · exact key l hl'.symm rfl h
  · exact key l' (by rw [hl', put_put]) (by rw [hl', put_length]) h

set_option maxHeartbeats 3200000 in
theorem put16_any (b n cap o : Nat) (x v : Int) (l : List Int) (w : World) (hx : x = o) (hp : Pg w b n cap l) (ho : o + 1 < n) (hv0 : 0 ≤ v) (hv1 : v ≤ 65535) :
    Calls Yba.prog 17 #[nd b n cap, .int .i64 x, .int .i64 v] w fun e w' => e = .returned (.tuple #[]) ∧ Only b w w' ∧ Pg w' b n cap (put l o v) := by
  subst hx
  have hn1 := hp.big
  have hn2 := hp.small
  have hWS := WS.start (n := n) (cap := cap) (l' := put l o v) hp.buf
  have HC := hid (fun W (h : (W.cell? ⟨w.heap.size, 0, none⟩ = some (.slice (some ⟨b, 0, none⟩) n cap) ∧ WS w w.heap.size b n cap l (put l o v) W)) => (by rw [u16w v ⟨hv0, hv1⟩]; exact PutUint16_buf b o (n - o) (cap - o) v l _ W (by omega) hv0 hv1 rfl h.2.buf (by rw [← hp.len]; exact ho) : Calls Yba.prog 21 #[.agg #[], .slice (some ⟨b, o, none⟩) (n - o) (cap - o), .int .u16 (IntKind.u16.wrap v)] W fun e w' => e = .returned (.tuple #[]) ∧ Only b W w' ∧ bufAt w' b (put l o v)))
  have hfin : ∀ w', bufAt w' b (put l o v) → Pg w' b n cap (put l o v) := fun w' h => ⟨h, by rw [put_length]; exact hp.len, hp.fit, hp.fitm, hp.big, hp.small⟩
  have hne : ¬ cap = o := by have := hp.fit; omega
  have hoc : (o : Int) ≤ (n : Int) := by omega
  have hcm : cap ≤ 9223372036854775807 := hp.fitm
  have hncap : (n : Int) ≤ (cap : Int) := by have := hp.fit; omega
  have HF := hid hfin
  clear hp hfin
  go_enter Yba.func17, Yba.ntmps17
  go_wp2_with fail
  go_region_held3 (fun w' => w'.cell? ⟨w.heap.size, 0, none⟩ = some (.slice (some ⟨b, 0, none⟩) n cap) ∧ WS w w.heap.size b n cap l (put l o v) w') (first | (refine WS.drew ?_; assumption) | (refine WS.wrote ?_ hb1 hb2 <;> assumption)) (first | (go_at_call 21; with_reducible (refine Calls.mono (HC.out _ ?_) ?_); assumption; rintro e w1 ⟨rfl, hb1, hb2⟩))
  rename_i hHeld
  go_end0
  exact ⟨rfl, hHeld.2.only, HF.out _ ‹_›⟩

set_option maxHeartbeats 3200000 in
theorem zzput16_any (b n cap o : Nat) (x v : Int) (l : List Int) (w : World) (hx : x = o) (hp : Pg w b n cap l) (ho : o + 1 < n) (hv0 : 0 ≤ v) (hv1 : v ≤ 65535) :
    Calls Yba.prog 10 #[.slice (some ⟨b, 0, none⟩) n cap, .int .i64 x, .int .i64 v] w fun e w' => e = .returned (.tuple #[]) ∧ Only b w w' ∧ Pg w' b n cap (put l o v) := by
  subst hx
  have hn1 := hp.big
  have hn2 := hp.small
  have HC := hid (fun W (h : Only b w W ∧ (bufAt W b l ∨ bufAt W b (put l o v))) => (by rw [u16w v ⟨hv0, hv1⟩]; exact PutUint16_buf b o (n - o) (cap - o) v l _ W (by omega) hv0 hv1 rfl h.2 (by rw [← hp.len]; exact ho) : Calls Yba.prog 21 #[.agg #[], .slice (some ⟨b, o, none⟩) (n - o) (cap - o), .int .u16 (IntKind.u16.wrap v)] W fun e w' => e = .returned (.tuple #[]) ∧ Only b W w' ∧ bufAt w' b (put l o v)))
  have hfin : ∀ w', bufAt w' b (put l o v) → Pg w' b n cap (put l o v) := fun w' h => ⟨h, by rw [put_length]; exact hp.len, hp.fit, hp.fitm, hp.big, hp.small⟩
  have hne : ¬ cap = o := by have := hp.fit; omega
  have hoc : (o : Int) ≤ (n : Int) := by omega
  have hcm : cap ≤ 9223372036854775807 := hp.fitm
  have hncap : (n : Int) ≤ (cap : Int) := by have := hp.fit; omega
  have HF := hid hfin
  have hst : Only b w w ∧ (bufAt w b l ∨ bufAt w b (put l o v)) := ⟨Only.refl _ _, .inl hp.buf⟩
  clear hp hfin
  go_enter Yba.func10, Yba.ntmps10
  go_wp2_with fail
  go_region_held3 (fun w' => Only b w w' ∧ (bufAt w' b l ∨ bufAt w' b (put l o v))) (first | assumption | (refine ow_drew ?_; assumption) | (refine ow_wrote ?_ hb1 hb2 <;> assumption)) (first | (go_at_call 21; with_reducible (refine Calls.mono (HC.out _ ?_) ?_); assumption; rintro e w1 ⟨rfl, hb1, hb2⟩))
  rename_i hHeld
  go_end0
  exact ⟨rfl, hHeld.1, HF.out _ ‹_›⟩

set_option maxHeartbeats 3200000 in
theorem setNext_any (b n cap r : Nat) (x v : Int) (l : List Int) (w : World) (hx : x = r) (hp : Pg w b n cap l) (ho : r + 4 < n) (hv0 : 0 ≤ v) (hv1 : v ≤ 65535) :
    Calls Yba.prog 18 #[nd b n cap, .int .i64 x, .int .i64 v] w fun e w' => e = .returned (.tuple #[]) ∧ Only b w w' ∧ Pg w' b n cap (put l (r + 3) v) := by
  subst hx
  have hn1 := hp.big
  have hn2 := hp.small
  have hRS := RS.start (n := n) (cap := cap) hp.buf
  have HC := hid (put16_any b n cap (r + 3) ((r : Int) + 3) v l _ (by omega) (hp.of_RS hRS) (by omega) hv0 hv1)
  clear hRS
  go_enter Yba.func18, Yba.ntmps18
  go_wp2_with (go_at_call 17; refine Calls.mono HC.out ?_; rintro e w1 ⟨rfl, hb1, hb2⟩)
  go_end0
  exact ⟨rfl, ((Only.refl _ _).alloc _).trans ‹_›, ‹_›⟩

set_option maxHeartbeats 3200000 in
theorem setOwned_any (b n cap r : Nat) (x v : Int) (l : List Int) (w : World) (hx : x = r) (hp : Pg w b n cap l) (ho : r < n) (hv0 : 0 ≤ v) (hv1 : v ≤ 255) :
    Calls Yba.prog 22 #[nd b n cap, .int .i64 x, .int .i64 v] w fun e w' => e = .returned (.tuple #[]) ∧ Only b w w' ∧ Pg w' b n cap (l.set r v) := by
  subst hx
  have hn1 := hp.big
  have hn2 := hp.small
  have hRS := RS.start (n := n) (cap := cap) hp.buf
  have hlen := hp.len
  have hl : r < l.length := by omega
  have bl := hp.buf.ic.lt
  have z := hp.buf.ic.frozen
  have c0 := hp.buf.cell r hl
  have hfin : ∀ w', bufAt w' b (l.set r v) → Pg w' b n cap (l.set r v) := fun w' h => ⟨h, by rw [List.length_set]; exact hp.len, hp.fit, hp.fitm, hp.big, hp.small⟩
  have hset := hp.buf.set r hl v ⟨hv0, hv1⟩
  have HS := hid hset
  have HF := hid hfin
  have hro : (r : Int) < (n : Int) := by omega
  clear hp hset hRS hfin hlen
  go_enter Yba.func22, Yba.ntmps22
  go_wp2
  go_end0
  exact ⟨rfl, ((Only.refl _ _).setCell _ _).alloc _, HF.out _ (HS.out.kept (Below.heap_alloc _ _ _ HS.out.ic.lt))⟩

set_option maxHeartbeats 3200000 in
theorem setSlot_any (b n cap o k : Nat) (v : Int) (l : List Int) (w : World) (hp : Pg w b n cap l) (ho : o = n - 4 - (k + 1) * 2) (hk : k < 20) (hv0 : 0 ≤ v) (hv1 : v ≤ 65535) :
    Calls Yba.prog 23 #[nd b n cap, .int .i64 (k : Int), .int .i64 v] w fun e w' => e = .returned (.tuple #[]) ∧ Only b w w' ∧ Pg w' b n cap (put l o v) := by
  have hn1 := hp.big
  have hn2 := hp.small
  have hWS := WS.start (n := n) (cap := cap) (l' := put l o v) hp.buf
  have hpg : ∀ W (m : List Int), m.length = l.length → bufAt W b m → Pg W b n cap m := fun W m hm h => ⟨h, by rw [hm]; exact hp.len, hp.fit, hp.fitm, hp.big, hp.small⟩
  have hT : ∀ W, (W.cell? ⟨w.heap.size, 0, none⟩ = some (.slice (some ⟨b, 0, none⟩) n cap) ∧ WS w w.heap.size b n cap l (put l o v) W) → Calls Yba.prog 24 #[nd b n cap] W fun e w' => e = .returned (.int .i64 ((n : Int) - 4)) ∧ Below W.heap.size W w' := by
    intro W h
    rcases h.2.buf with h1 | h1
    · exact trailer_any b n cap l W (hpg W l rfl h1)
    · exact trailer_any b n cap (put l o v) W (hpg W _ (put_length _ _ _) h1)
  have hP : ∀ W, (W.cell? ⟨w.heap.size, 0, none⟩ = some (.slice (some ⟨b, 0, none⟩) n cap) ∧ WS w w.heap.size b n cap l (put l o v) W) → Calls Yba.prog 17 #[nd b n cap, .int .i64 (IntKind.i64.wrap ((n : Int) - 4 - IntKind.i64.wrap (IntKind.i64.wrap ((k : Int) + 1) * 2))), .int .i64 v] W fun e w' => e = .returned (.tuple #[]) ∧ Only b W w' ∧ Pg w' b n cap (put l o v) := by
    intro W h
    have hx : IntKind.i64.wrap ((n : Int) - 4 - IntKind.i64.wrap (IntKind.i64.wrap ((k : Int) + 1) * 2)) = (o : Int) := by
      rw [i64w ((k : Int) + 1) (by omega), i64w (((k : Int) + 1) * 2) (by omega), i64w _ (by omega)]
      omega
    rcases h.2.buf with h1 | h1
    · exact put16_any b n cap o _ v l W hx (hpg W l rfl h1) (by omega) hv0 hv1
    · have h2 := put16_any b n cap o _ v (put l o v) W hx (hpg W _ (put_length _ _ _) h1) (by omega) hv0 hv1
      rw [put_put] at h2
      exact h2
  have HT := hid hT
  have HP := hid hP
  clear hT hP hpg hp
  go_enter Yba.func23, Yba.ntmps23
  go_wp2_with fail
  go_region_held3 (fun w' => w'.cell? ⟨w.heap.size, 0, none⟩ = some (.slice (some ⟨b, 0, none⟩) n cap) ∧ WS w w.heap.size b n cap l (put l o v) w') (first | (refine WS.drew ?_; assumption) | (refine WS.wrote ?_ hb1 hb2.buf <;> assumption) | (refine WS.read ?_ hb3; assumption)) (first | (go_at_call 17; with_reducible (refine Calls.mono (HP.out _ ?_) ?_); assumption; rintro e w1 ⟨rfl, hb1, hb2⟩) | (go_at_call 24; with_reducible (refine Calls.mono (HT.out _ ?_) ?_); assumption; rintro e w2 ⟨rfl, hb3⟩))
  rename_i hHeld
  go_end0
  exact ⟨rfl, hHeld.2.only, ‹_›⟩
end Go.Proofs.Ybulkcnti
