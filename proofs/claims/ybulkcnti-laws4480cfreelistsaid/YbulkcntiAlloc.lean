import Derived.Test.YbulkcntiClone
namespace Go.Proofs.Ybulkcnti
open Go.RowKit
set_option linter.unusedVariables false
set_option linter.unusedSimpArgs false

/-- A record's size. -/
def rsz (l : List Int) (a : Nat) : Int := (if l.getD 0 0 = 1 then 17 else 9) + get2 l (a + 5) + get2 l (a + 7)

/-- The free list from offset r on: offset and size of each record. -/
def Chain (l : List Int) (n : Nat) : Nat → List (Nat × Nat) → Prop
  | r, [] => r = 0
  | r, (a, h) :: R => r = a ∧ 32 ≤ a ∧ a + h ≤ n ∧ a + 8 < n ∧ 0 < h ∧ rsz l a = (h : Int) ∧ (h : Int) ≤ get2 l 10 ∧ ∃ nx : Nat, get2 l (a + 3) = (nx : Int) ∧ (nx = 0 ∨ a + h ≤ nx) ∧ Chain l n nx R

/-- The first record large enough, with the one ahead of it. -/
def findFit (size : Int) : Nat → List (Nat × Nat) → Option (Nat × Nat × Nat)
  | _, [] => none
  | prev, (a, h) :: R => if (h : Int) < size then findFit size a R else some (prev, a, h)

def unlink (l : List Int) (prev r : Nat) : List Int := if prev = 0 then put l 8 (get2 l (r + 3)) else put l (prev + 3) (get2 l (r + 3))
def wiped (l : List Int) (prev r h : Nat) : List Int := clr h (unlink l prev r) r
def took (l : List Int) (prev r h : Nat) (size : Int) : List Int := put (wiped l prev r h) 10 (get2 (wiped l prev r h) 10 - size)
def roomOf (l : List Int) (n : Nat) : Int := (n : Int) - 4 - get2 l 12 * 2 - get2 l 6

def allocSpec (l : List Int) (n : Nat) (size spare : Int) (R : List (Nat × Nat)) : Int × Int × List Int :=
  match (if spare ≤ roomOf l n then findFit size 0 R else none) with
  | some (prev, r, h) => ((r : Int), get2 (unlink l prev r) (r + 1), took l prev r h size)
  | none => if roomOf l n < size + spare then (0, 0, l) else (get2 l 6, get2 l 4, put (put l 6 (get2 l 6 + size)) 4 (get2 l 4 + 1))

/-- What stands while allocate runs. -/
structure AS (w0 : World) (bx b n cap : Nat) (l : List Int) (w : World) : Prop where
  box : w.cell? ⟨bx, 0, none⟩ = some (.slice (some ⟨b, 0, none⟩) n cap)
  only : Only b w0 w
  pg : Pg w b n cap l
  blt : bx < w.heap.size
  bne : ¬ bx = b

theorem AS.drew {w0 w : World} {bx b n cap : Nat} {l : List Int} (h : AS w0 bx b n cap l w) : AS w0 bx b n cap l w.drew := ⟨h.box, h.only.drew, h.pg.kept rfl, h.blt, h.bne⟩
theorem AS.read {w0 w w' : World} {bx b n cap : Nat} {l : List Int} (h : AS w0 bx b n cap l w) (hb : Below w.heap.size w w') : AS w0 bx b n cap l w' :=
  ⟨(cell_heap (hb.block bx h.blt)).trans h.box, h.only.trans (.of_below hb), h.pg.below hb, Nat.lt_of_lt_of_le h.blt hb.size, h.bne⟩
theorem AS.wrote {w0 w w' : World} {bx b n cap : Nat} {l l' : List Int} (h : AS w0 bx b n cap l w) (ho : Only b w w') (hp : Pg w' b n cap l') : AS w0 bx b n cap l' w' :=
  ⟨(ho.cell h.blt h.bne).trans h.box, h.only.trans ho, hp, Nat.lt_of_lt_of_le h.blt ho.size, h.bne⟩
theorem AS.start {w : World} {b n cap : Nat} {l : List Int} (h : Pg w b n cap l) : AS w w.heap.size b n cap l (w.alloc (.cells #[.slice (some ⟨b, 0, none⟩) n cap] 25)) :=
  ⟨by rw [World.cell?_alloc_new]; rfl, (Only.refl _ _).alloc _, h.kept (Below.heap_alloc _ _ _ h.buf.ic.lt), by simp, by have := h.buf.ic.lt; omega⟩

abbrev ASB (w0 : World) (bx b n cap : Nat) (w : World) : Prop := w.cell? ⟨bx, 0, none⟩ = some (.slice (some ⟨b, 0, none⟩) n cap) ∧ ∃ l, AS w0 bx b n cap l w
theorem AS.both {w0 w : World} {bx b n cap : Nat} {l : List Int} (h : AS w0 bx b n cap l w) : w.cell? ⟨bx, 0, none⟩ = some (.slice (some ⟨b, 0, none⟩) n cap) ∧ ∃ l, AS w0 bx b n cap l w := ⟨h.box, l, h⟩

theorem AS.clear {w0 w : World} {bx b n cap : Nat} {l : List Int} (h : AS w0 bx b n cap l w) (r k c : Nat) (hk : 0 < k) (hr : r + k ≤ n) :
    ∃ w', (∀ ty, (Builtin.clear_ #[23] ty #[.slice (some ⟨b, r, none⟩) k c]).run Yba.prog w = .ok (.tuple #[]) w') ∧ w'.cell? ⟨bx, 0, none⟩ = some (.slice (some ⟨b, 0, none⟩) n cap) ∧ AS w0 bx b n cap (clr k l r) w' := by
  have hl := h.pg.len
  have hb := h.pg.buf.clr k r (by omega)
  have hq : AS w0 bx b n cap (clr k l r) (w.setCells b r (List.replicate k (.int .u8 0))) :=
    h.wrote ((Only.refl _ _).setCells _ _) ⟨hb, by rw [clr_length]; exact hl, h.pg.fit, h.pg.fitm, h.pg.big, h.pg.small⟩
  exact ⟨_, fun ty => clear_buf ty b r k c l w h.pg.buf hk (by omega), hq.box, hq⟩

set_option maxHeartbeats 6400000 in
theorem allocate_any (b n cap : Nat) (size spare : Int) (l : List Int) (R : List (Nat × Nat)) (w : World) (hp : Pg w b n cap l) (hs0 : 0 ≤ size) (hs1 : size ≤ 100000) (hq0 : 0 ≤ spare) (hq1 : spare ≤ 100000)
    (hc4 : get2 l 4 ≤ 65534) (r0 : Nat) (hr0 : get2 l 8 = (r0 : Int)) (hch : Chain l n r0 R) (hgar : ∀ prev r h, findFit size 0 R = some (prev, r, h) → size ≤ get2 (wiped l prev r h) 10) :
    Calls Yba.prog 8 #[nd b n cap, .int .i64 size, .int .i64 spare] w fun e w' => e = .returned (.tuple #[.int .i64 (allocSpec l n size spare R).1, .int .i64 (allocSpec l n size spare R).2.1]) ∧ Only b w w' ∧ Pg w' b n cap (allocSpec l n size spare R).2.2 := by
  have hn1 := hp.big
  have hn2 := hp.small
  have h12 := hp.rng 12
  have h6 := hp.rng 6
  have hA := AS.start hp
  have hAd := hA.drew
  have HD := hid (fun W (h : AS w w.heap.size b n cap l W) => dirStart_any b n cap l W h.pg)
  have HT := hid (fun W (h : AS w w.heap.size b n cap l W) => heapTop_any b n cap l W h.pg)
  have HU8 := hid (fun W (h : AS w w.heap.size b n cap l W) => u16_any b n cap 8 8 l W rfl h.pg.buf h.pg.len h.pg.fit h.pg.fitm (by omega))
  have HU4 := hid (fun W (h : AS w w.heap.size b n cap l W) => u16_any b n cap 4 4 l W rfl h.pg.buf h.pg.len h.pg.fit h.pg.fitm (by omega))
  have hroom : (n : Int) - 4 - get2 l 12 * 2 - get2 l 6 = roomOf l n := rfl
  have hrm0 : -300000 ≤ roomOf l n := by omega
  have hrm1 : roomOf l n ≤ 300000 := by omega
  have hw1 : IntKind.i64.wrap ((n : Int) - 4 - get2 l 12 * 2 - get2 l 6) = roomOf l n := by rw [i64w _ (by omega)]; rfl
  have HW1 := hid hw1
  clear hw1 hroom
  by_cases hsp : spare ≤ roomOf l n
  · have hd1 : decide (spare ≤ roomOf l n) = true := by simpa using hsp
    have hspec : allocSpec l n size spare R = match findFit size 0 R with
      | some (prev, r, h) => ((r : Int), get2 (unlink l prev r) (r + 1), took l prev r h size)
      | none => if roomOf l n < size + spare then (0, 0, l) else (get2 l 6, get2 l 4, put (put l 6 (get2 l 6 + size)) 4 (get2 l 4 + 1)) := by
      unfold allocSpec
      rw [if_pos hsp]
    generalize allocSpec l n size spare R = RES at *
    have HSPEC := hid hspec
    clear hspec
    have h6' : get2 l 6 + size ≤ 65535 ∨ roomOf l n < size + spare := by unfold roomOf at hrm0 hrm1 ⊢; omega
    have HR0 := hid hr0
    have HCH := hid hch
    have HGAR := hid hgar
    clear hr0 hch hgar hp
    go_enter Yba.func8, Yba.ntmps8
    go_wp2_with fail
    go_region_held3 (fun w' => w'.cell? ⟨w.heap.size, 0, none⟩ = some (.slice (some ⟨b, 0, none⟩) n cap) ∧ ∃ l, AS w w.heap.size b n cap l w') (first | (exact AS.both hs2) | (exact AS.both hs1) | (exact AS.both hAd)) (first | (go_at_call 12; with_reducible (refine Calls.mono (HD.out _ ?_) ?_); assumption; rintro e w1 ⟨rfl, hb1⟩; have hs1 := hAd.read hb1) | (go_at_call 13; with_reducible (refine Calls.mono (HT.out _ hs1) ?_); rintro e w2 ⟨rfl, hb2⟩; have hs2 := hs1.read hb2))
    rw [HW1.out]
    have hbox2 := hs2.box
    rw [HR0.out] at HU8
    go_wp2_with (go_at_call 14; with_reducible (refine Calls.mono (HU8.out _ hs2) ?_); rintro e w3 ⟨rfl, hb3⟩; have hs3 := hs2.read hb3)
    go_loopw [9, 10] (fun p r wr => ∃ (pn rn : Nat) (R' : List (Nat × Nat)), p = .int .i64 pn ∧ r = .int .i64 rn ∧ Chain l n rn R' ∧ findFit size 0 R = findFit size pn R' ∧ (pn = 0 ∨ (32 ≤ pn ∧ pn + 8 < n)) ∧ AS w w.heap.size b n cap l wr) (fun _ r _ => if intOf r = 0 then 0 else n + 1 - (intOf r).toNat)
    case atStart => exact ⟨0, r0, R, rfl, rfl, HCH.out, rfl, Or.inl rfl, hs3⟩
    case round =>
      obtain ⟨pn, rn, R', rfl, rfl, hc, hfind, hpn, hwr⟩ := hrel
      have hboxr := hwr.box
      cases R' with
      | nil =>
        obtain rfl : rn = 0 := hc
        have hnone : findFit size 0 R = none := hfind.trans rfl
        clear hfind hpn
        by_cases ht : roomOf l n < size + spare
        · have hd2 : decide (roomOf l n < size + spare) = true := by simpa using ht
          have HRES : Hid (RES = (0, 0, l)) := hid (by rw [HSPEC.out, hnone]; simp only; rw [if_pos ht])
          clear ht hsp HSPEC hnone
          generalize roomOf l n = rm at *
          go_wp2
          go_ret2
          rw [HRES.out]
          exact ⟨rfl, hwr.only, hwr.pg⟩
        · have hd2 : decide (roomOf l n < size + spare) = false := by simpa using ht
          have HRES : Hid (RES = (get2 l 6, get2 l 4, put (put l 6 (get2 l 6 + size)) 4 (get2 l 4 + 1))) := hid (by rw [HSPEC.out, hnone]; simp only; rw [if_neg ht])
          have h4 := hwr.pg.rng 4
          have h65 : get2 l 6 + size ≤ 65535 := by rcases h6' with h | h; exact h; exact absurd h ht
          have P6 := hid (fun W (h : AS w w.heap.size b n cap l W) => put16_any b n cap 6 6 (get2 l 6 + size) l W rfl h.pg (by omega) (by omega) h65)
          have P4 := hid (fun W (h : AS w w.heap.size b n cap (put l 6 (get2 l 6 + size)) W) => put16_any b n cap 4 4 (get2 l 4 + 1) (put l 6 (get2 l 6 + size)) W rfl h.pg (by omega) (by omega) (by omega))
          have hwrd := hwr.drew
          clear ht hsp h6' HSPEC hnone
          generalize roomOf l n = rm at *
          have h41 := h4.1
          have h61 := h6.1
          generalize get2 l 6 = g6 at *
          generalize get2 l 4 = g4 at *
          go_wp2_with fail
          go_region_held3 (fun w' => w'.cell? ⟨w.heap.size, 0, none⟩ = some (.slice (some ⟨b, 0, none⟩) n cap) ∧ ∃ l, AS w w.heap.size b n cap l w') (first | (exact AS.both ht2) | (exact AS.both ht1) | (exact AS.both hwrd)) (first | (go_at_call 13; with_reducible (refine Calls.mono (HT.out _ hwrd) ?_); rintro e v1 ⟨rfl, hb1⟩; have ht1 := hwrd.read hb1) | (go_at_call 14; with_reducible (refine Calls.mono (HU4.out _ ht1) ?_); rintro e v2 ⟨rfl, hb2⟩; have ht2 := ht1.read hb2; have htb2 := ht2.box))
          go_wp2_with (first | (go_at_call 17; with_reducible (refine Calls.mono (P6.out _ ht2) ?_); rintro e v3 ⟨rfl, ho3, hp3⟩; have ht3 := ht2.wrote ho3 hp3; have htb3 := ht3.box) | (go_at_call 17; with_reducible (refine Calls.mono (P4.out _ ht3) ?_); rintro e v4 ⟨rfl, ho4, hp4⟩; have ht4 := ht3.wrote ho4 hp4))
          go_ret2
          rw [HRES.out]
          exact ⟨rfl, ht4.only, ht4.pg⟩
      | cons ah R1 =>
        obtain ⟨a, h⟩ := ah
        obtain ⟨rfl, ha32, hah, ha8, hh0, hsz, hgb, nx, hnx, hnxo, hc1⟩ := hc
        have HRS := hid (fun W (k : AS w w.heap.size b n cap l W) => (by have := recordSize_any b n cap rn (rn : Int) l W rfl k.pg (by omega); rw [show ((if l.getD 0 0 = 1 then 17 else 9) + get2 l (rn + 5) + get2 l (rn + 7) : Int) = (h : Int) from hsz] at this; exact this : Calls Yba.prog 16 #[nd b n cap, .int .i64 (rn : Int)] W fun e w' => e = .returned (.int .i64 (h : Int)) ∧ Below W.heap.size W w'))
        have HNX := hid (fun W (k : AS w w.heap.size b n cap l W) => (by have := next_any b n cap rn (rn : Int) l W rfl k.pg (by omega); rw [hnx] at this; exact this : Calls Yba.prog 15 #[nd b n cap, .int .i64 (rn : Int)] W fun e w' => e = .returned (.int .i64 (nx : Int)) ∧ Below W.heap.size W w'))
        have hr1 : ((rn : Int) != 0) = true := by simp; omega
        have hr2 : decide ((rn : Int) = 0) = false := by simp; omega
        have hwf : h ≤ 65535 := by omega
        clear hsz
        by_cases hfit : (h : Int) < size
        · have hdf : decide ((h : Int) < size) = true := by simpa using hfit
          have hfind2 : findFit size 0 R = findFit size rn R1 := by rw [hfind, findFit, if_pos hfit]
          have HF2 := hid hfind2
          have HC1 := hid hc1
          have HNXO := hid hnxo
          clear hfind hfind2 hc1 hnx hnxo hpn hgb hr2 HSPEC
          generalize roomOf l n = rm at *
          go_wp2_with (first | (go_at_call 16; with_reducible (refine Calls.mono (HRS.out _ hwr) ?_); rintro e v1 ⟨rfl, hb1⟩; have ht1 := hwr.read hb1; have htb1 := ht1.box) | (go_at_call 15; with_reducible (refine Calls.mono (HNX.out _ ht1) ?_); rintro e v2 ⟨rfl, hb2⟩; have ht2 := ht1.read hb2))
          refine ⟨⟨rn, nx, R1, rfl, rfl, HC1.out, HF2.out, Or.inr ⟨ha32, by omega⟩, ht2⟩, ?_⟩
          show (if (nx : Int) = 0 then 0 else n + 1 - (nx : Int).toNat) < (if (rn : Int) = 0 then 0 else n + 1 - (rn : Int).toNat)
          rw [if_neg (show ¬ ((rn : Int) = 0) by omega)]
          have hnx2 := HNXO.out
          split <;> omega
        · have hdf : decide ((h : Int) < size) = false := by simpa using hfit
          have hfind2 : findFit size 0 R = some (pn, rn, h) := by rw [hfind, findFit, if_neg hfit]
          have HRES : Hid (RES = ((rn : Int), get2 (unlink l pn rn) (rn + 1), took l pn rn h size)) := hid (by rw [HSPEC.out, hfind2])
          have hnx65 : (nx : Int) ≤ 65535 := by rw [← hnx]; exact (hwr.pg.rng (rn + 3)).2
          have hgar := HGAR.out pn rn h hfind2
          have hnx0 : (0 : Int) ≤ (nx : Int) := by omega
          have HHN := hid (fun W (k : AS w w.heap.size b n cap (unlink l pn rn) W) => heapNumber_any b n cap rn (rn : Int) (unlink l pn rn) W rfl k.pg (by omega))
          have HCL : Hid (∀ W, AS w w.heap.size b n cap (unlink l pn rn) W → ∃ w', (∀ ty, (Builtin.clear_ #[23] ty #[.slice (some ⟨b, rn, none⟩) h (cap - rn)]).run Yba.prog W = .ok (.tuple #[]) w') ∧ w'.cell? ⟨w.heap.size, 0, none⟩ = some (.slice (some ⟨b, 0, none⟩) n cap) ∧ AS w w.heap.size b n cap (wiped l pn rn h) w') := hid (fun W k => k.clear rn h (cap - rn) hh0 hah)
          have HG := hid (fun W (k : AS w w.heap.size b n cap (wiped l pn rn h) W) => garbage_any b n cap (wiped l pn rn h) W k.pg)
          have HGR := hid (fun W (k : AS w w.heap.size b n cap (wiped l pn rn h) W) => k.pg.rng 10)
          have HPG := hid (fun W (k : AS w w.heap.size b n cap (wiped l pn rn h) W) => (by rw [i64w _ (by have := k.pg.rng 10; omega)]; exact put16_any b n cap 10 10 (get2 (wiped l pn rn h) 10 - size) (wiped l pn rn h) W rfl k.pg (by omega) (by omega) (by have := k.pg.rng 10; omega) : Calls Yba.prog 17 #[nd b n cap, .int .i64 10, .int .i64 (IntKind.i64.wrap (get2 (wiped l pn rn h) 10 - size))] W fun e w' => e = .returned (.tuple #[]) ∧ Only b W w' ∧ Pg w' b n cap (took l pn rn h size)))
          have hrnn : (rn : Int) + (h : Int) ≤ (n : Int) := by omega
          have hcapn : n ≤ cap := hwr.pg.fit
          have hcapm : cap ≤ 9223372036854775807 := hwr.pg.fitm
          have hrh : ¬ cap = rn := by omega
          by_cases hp0 : pn = 0
          · subst hp0
            have hul : unlink l 0 rn = put l 8 (nx : Int) := by unfold unlink; rw [if_pos rfl, hnx]
            have HP8 := hid (fun W (k : AS w w.heap.size b n cap l W) => (by have := put16_any b n cap 8 8 (nx : Int) l W rfl k.pg (by omega) hnx0 hnx65; rw [← hul] at this; exact this : Calls Yba.prog 17 #[nd b n cap, .int .i64 8, .int .i64 (nx : Int)] W fun e w' => e = .returned (.tuple #[]) ∧ Only b W w' ∧ Pg w' b n cap (unlink l 0 rn)))
            clear hfind hfind2 hc1 hnx hnxo hpn hgb hr2 hul hgar HSPEC
            generalize wiped l 0 rn h = l2 at *
            generalize took l 0 rn h size = l3 at *
            generalize unlink l 0 rn = l1 at *
            generalize roomOf l n = rm at *
            go_wp2_with (first | (go_at_call 16; with_reducible (refine Calls.mono (HRS.out _ hwr) ?_); rintro e v1 ⟨rfl, hb1⟩; have ht1 := hwr.read hb1; have htb1 := ht1.box; have ht1d := ht1.drew))
            go_region_held3 (fun w' => w'.cell? ⟨w.heap.size, 0, none⟩ = some (.slice (some ⟨b, 0, none⟩) n cap) ∧ ∃ l, AS w w.heap.size b n cap l w') (first | (exact AS.both ht3) | (exact AS.both ht2) | (exact AS.both ht1d)) (first | (go_at_call 15; with_reducible (refine Calls.mono (HNX.out _ ht1d) ?_); rintro e v2 ⟨rfl, hb2⟩; have ht2 := ht1d.read hb2) | (go_at_call 17; with_reducible (refine Calls.mono (HP8.out _ ht2) ?_); rintro e v3 ⟨rfl, ho3, hp3⟩; have ht3 := ht2.wrote ho3 hp3; have htb3 := ht3.box))
            go_wp2_with (first | (go_at_call 19; (with_reducible (refine Calls.mono (HHN.out _ ht3) ?_)); rintro e v4 ⟨rfl, hb4⟩; have ht4 := ht3.read hb4; have htb4 := ht4.box; (obtain ⟨v5, hcl5, htb5, ht5⟩ := HCL.out _ ht4); have ht5d := ht5.drew) | simp only [hcl5])
            go_region_held3 (fun w' => w'.cell? ⟨w.heap.size, 0, none⟩ = some (.slice (some ⟨b, 0, none⟩) n cap) ∧ ∃ l, AS w w.heap.size b n cap l w') (first | (exact AS.both ht7) | (exact AS.both ht6) | (exact AS.both ht5d)) (first | (go_at_call 20; with_reducible (refine Calls.mono (HG.out _ ht5d) ?_); rintro e v6 ⟨rfl, hb6⟩; have ht6 := ht5d.read hb6) | (go_at_call 17; with_reducible (refine Calls.mono (HPG.out _ ht6) ?_); rintro e v7 ⟨rfl, ho7, hp7⟩; have ht7 := ht6.wrote ho7 hp7))
            go_wp2
            go_ret2
            rw [HRES.out]
            exact ⟨rfl, ht7.only, ht7.pg⟩
          · have hpn2 : 32 ≤ pn ∧ pn + 8 < n := by rcases hpn with h | h; exact absurd h hp0; exact h
            have hul : unlink l pn rn = put l (pn + 3) (nx : Int) := by unfold unlink; rw [if_neg hp0, hnx]
            have hpd : decide ((pn : Int) = 0) = false := by simp; omega
            have HP8 := hid (fun W (k : AS w w.heap.size b n cap l W) => (by have := setNext_any b n cap pn (pn : Int) (nx : Int) l W rfl k.pg (by omega) hnx0 hnx65; rw [← hul] at this; exact this : Calls Yba.prog 18 #[nd b n cap, .int .i64 (pn : Int), .int .i64 (nx : Int)] W fun e w' => e = .returned (.tuple #[]) ∧ Only b W w' ∧ Pg w' b n cap (unlink l pn rn)))
            clear hfind hfind2 hc1 hnx hnxo hpn hgb hr2 hul hgar HSPEC
            generalize wiped l pn rn h = l2 at *
            generalize took l pn rn h size = l3 at *
            generalize unlink l pn rn = l1 at *
            generalize roomOf l n = rm at *
            go_wp2_with (first | (go_at_call 16; with_reducible (refine Calls.mono (HRS.out _ hwr) ?_); rintro e v1 ⟨rfl, hb1⟩; have ht1 := hwr.read hb1; have htb1 := ht1.box; have ht1d := ht1.drew))
            go_region_held3 (fun w' => w'.cell? ⟨w.heap.size, 0, none⟩ = some (.slice (some ⟨b, 0, none⟩) n cap) ∧ ∃ l, AS w w.heap.size b n cap l w') (first | (exact AS.both ht3) | (exact AS.both ht2) | (exact AS.both ht1d)) (first | (go_at_call 15; with_reducible (refine Calls.mono (HNX.out _ ht1d) ?_); rintro e v2 ⟨rfl, hb2⟩; have ht2 := ht1d.read hb2) | (go_at_call 18; with_reducible (refine Calls.mono (HP8.out _ ht2) ?_); rintro e v3 ⟨rfl, ho3, hp3⟩; have ht3 := ht2.wrote ho3 hp3; have htb3 := ht3.box))
            go_wp2_with (first | (go_at_call 19; (with_reducible (refine Calls.mono (HHN.out _ ht3) ?_)); rintro e v4 ⟨rfl, hb4⟩; have ht4 := ht3.read hb4; have htb4 := ht4.box; (obtain ⟨v5, hcl5, htb5, ht5⟩ := HCL.out _ ht4); have ht5d := ht5.drew) | simp only [hcl5])
            go_region_held3 (fun w' => w'.cell? ⟨w.heap.size, 0, none⟩ = some (.slice (some ⟨b, 0, none⟩) n cap) ∧ ∃ l, AS w w.heap.size b n cap l w') (first | (exact AS.both ht7) | (exact AS.both ht6) | (exact AS.both ht5d)) (first | (go_at_call 20; with_reducible (refine Calls.mono (HG.out _ ht5d) ?_); rintro e v6 ⟨rfl, hb6⟩; have ht6 := ht5d.read hb6) | (go_at_call 17; with_reducible (refine Calls.mono (HPG.out _ ht6) ?_); rintro e v7 ⟨rfl, ho7, hp7⟩; have ht7 := ht6.wrote ho7 hp7))
            go_wp2
            go_ret2
            rw [HRES.out]
            exact ⟨rfl, ht7.only, ht7.pg⟩
  · have hlt : roomOf l n < size + spare := by omega
    have hspec : allocSpec l n size spare R = (0, 0, l) := by unfold allocSpec; rw [if_neg hsp]; simp only; rw [if_pos hlt]
    rw [hspec]
    clear hspec
    have hd1 : decide (spare ≤ roomOf l n) = false := by simpa using hsp
    have hd2 : decide (roomOf l n < size + spare) = true := by simpa using hlt
    clear hsp hlt
    go_enter Yba.func8, Yba.ntmps8
    go_wp2_with fail
    go_region_held3 (fun w' => w'.cell? ⟨w.heap.size, 0, none⟩ = some (.slice (some ⟨b, 0, none⟩) n cap) ∧ ∃ l, AS w w.heap.size b n cap l w') (first | (exact AS.both hs2) | (exact AS.both hs1) | (exact AS.both hAd)) (first | (go_at_call 12; with_reducible (refine Calls.mono (HD.out _ ?_) ?_); assumption; rintro e w1 ⟨rfl, hb1⟩; have hs1 := hAd.read hb1) | (go_at_call 13; with_reducible (refine Calls.mono (HT.out _ hs1) ?_); rintro e w2 ⟨rfl, hb2⟩; have hs2 := hs1.read hb2))
    rw [HW1.out]
    generalize roomOf l n = rm at *
    go_wp2
    go_ret2
    exact ⟨rfl, hs2.only, hs2.pg⟩
end Go.Proofs.Ybulkcnti
