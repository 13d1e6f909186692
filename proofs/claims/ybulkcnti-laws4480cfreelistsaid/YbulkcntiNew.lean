import Derived.Test.YbulkcntiPut
import Derived.BigFrame
namespace Go.Proofs.Ybulkcnti
open Go.RowKit
set_option linter.unusedVariables false
set_option linter.unusedSimpArgs false

/-- The list with k bytes from o on cleared. -/
def clr : Nat → List Int → Nat → List Int
  | 0, l, _ => l
  | k + 1, l, o => clr k (l.set o 0) (o + 1)

theorem clr_length : ∀ (k : Nat) (l : List Int) (o : Nat), (clr k l o).length = l.length
  | 0, _, _ => rfl
  | k + 1, l, o => by rw [clr, clr_length k]; simp

theorem bufAt.clr {b : Nat} : ∀ (k : Nat) {w : World} {l : List Int} (o : Nat), bufAt w b l → o + k ≤ l.length → bufAt (w.setCells b o (List.replicate k (.int .u8 0))) b (clr k l o)
  | 0, w, l, o, h, _ => h
  | k + 1, w, l, o, h, hk => by
    rw [List.replicate_succ, World.setCells, Ybulkcnti.clr]
    exact bufAt.clr k (o + 1) (h.set o (by omega) 0 (by omega)) (by rw [List.length_set]; omega)

theorem Only.setCells {b : Nat} {w0 : World} : ∀ (vs : List Value) (o : Nat) {w : World}, Only b w0 w → Only b w0 (w.setCells b o vs)
  | [], o, w, h => h
  | v :: r, o, w, h => by rw [World.setCells]; exact Only.setCells r (o + 1) (h.setCell o v)

theorem setCells_size (b : Nat) : ∀ (vs : List Value) (o : Nat) (w : World), (w.setCells b o vs).heap.size = w.heap.size
  | [], o, w => rfl
  | v :: r, o, w => by rw [World.setCells, setCells_size b r]; simp

theorem Only.setNew {b : Nat} {w w' : World} (h : Only b w w') {k : Nat} (hk : w.heap.size ≤ k) (i : Nat) (v : Value) : Only b w (w'.setCell ⟨k, i, none⟩ v) :=
  ⟨h.os, h.tape, h.output, by simpa using h.size, fun j hj hb => (Below.heap_setCell w' ⟨k, i, none⟩ v j (by show j ≠ k; omega)).trans (h.block j hj hb)⟩
theorem Pg.kept {w w' : World} {b n cap : Nat} {l : List Int} (h : Pg w b n cap l) (hh : w'.heap[b]? = w.heap[b]?) : Pg w' b n cap l := ⟨h.buf.kept hh, h.len, h.fit, h.fitm, h.big, h.small⟩

theorem zero5 (w : World) : (zeroValue 5).run Yba.prog w = .ok (.int .u8 0) w := by kernel_rfl

theorem clear_buf (ty : TypeId) (b o n c : Nat) (l : List Int) (w : World) (h : bufAt w b l) (hn : 0 < n) (ho : o + n ≤ l.length) :
    (Builtin.clear_ #[23] ty #[.slice (some ⟨b, o, none⟩) n c]).run Yba.prog w = .ok (.tuple #[]) (w.setCells b o (List.replicate n (.int .u8 0))) :=
  Lib.run_clear_slice w 23 5 ty (.int .u8 0) Yba.underlying23 zero5 rfl rfl b o n c hn (fun j hj => by rw [h.cell (o + j) (by omega)]; rfl) (fun j _ => h.ic.frozen _)

/-- What stands while newNode writes. -/
structure NS (w0 : World) (rx bx b n cap : Nat) (l : List Int) (w : World) : Prop where
  box : w.cell? ⟨bx, 0, none⟩ = some (.slice (some ⟨b, 0, none⟩) n cap)
  res : w.cell? ⟨rx, 0, none⟩ = some (.slice none 0 0)
  ires : isC w rx
  only : Only b w0 w
  pg : Pg w b n cap l
  blt : bx < w.heap.size
  rlt : rx < w.heap.size
  bne : ¬ bx = b
  rne : ¬ rx = b

theorem NS.wrote {w0 w w' : World} {rx bx b n cap : Nat} {l l' : List Int} (h : NS w0 rx bx b n cap l w) (ho : Only b w w') (hp : Pg w' b n cap l') : NS w0 rx bx b n cap l' w' :=
  ⟨(ho.cell h.blt h.bne).trans h.box, (ho.cell h.rlt h.rne).trans h.res, h.ires.of_heap (ho.block _ h.rlt h.rne), h.only.trans ho, hp, Nat.lt_of_lt_of_le h.blt ho.size, Nat.lt_of_lt_of_le h.rlt ho.size, h.bne, h.rne⟩

theorem NS.p16 {w0 w : World} {rx bx b n cap : Nat} {l : List Int} (o : Nat) (x v : Int) (hx : x = o) (ho : o + 1 < 64) (hv0 : 0 ≤ v) (hv1 : v ≤ 65535) (h : NS w0 rx bx b n cap l w) :
    Calls Yba.prog 17 #[nd b n cap, .int .i64 x, .int .i64 v] w fun e w' => e = .returned (.tuple #[]) ∧ w'.cell? ⟨bx, 0, none⟩ = some (.slice (some ⟨b, 0, none⟩) n cap) ∧ NS w0 rx bx b n cap (put l o v) w' :=
  (put16_any b n cap o x v l w hx h.pg (by have := h.pg.big; omega) hv0 hv1).mono fun _ _ ⟨he, ho, hp⟩ => ⟨he, (h.wrote ho hp).box, h.wrote ho hp⟩
theorem NS.own {w0 w : World} {rx bx b n cap : Nat} {l : List Int} (o : Nat) (x v : Int) (hx : x = o) (ho : o + 1 < 64) (hv0 : 0 ≤ v) (hv1 : v ≤ 255) (h : NS w0 rx bx b n cap l w) :
    Calls Yba.prog 22 #[nd b n cap, .int .i64 x, .int .i64 v] w fun e w' => e = .returned (.tuple #[]) ∧ w'.cell? ⟨bx, 0, none⟩ = some (.slice (some ⟨b, 0, none⟩) n cap) ∧ NS w0 rx bx b n cap (l.set o v) w' :=
  (setOwned_any b n cap o x v l w hx h.pg (by have := h.pg.big; omega) hv0 hv1).mono fun _ _ ⟨he, ho, hp⟩ => ⟨he, (h.wrote ho hp).box, h.wrote ho hp⟩
theorem NS.nxt {w0 w : World} {rx bx b n cap : Nat} {l : List Int} (o : Nat) (x v : Int) (hx : x = o) (ho : o + 4 < 64) (hv0 : 0 ≤ v) (hv1 : v ≤ 65535) (h : NS w0 rx bx b n cap l w) :
    Calls Yba.prog 18 #[nd b n cap, .int .i64 x, .int .i64 v] w fun e w' => e = .returned (.tuple #[]) ∧ w'.cell? ⟨bx, 0, none⟩ = some (.slice (some ⟨b, 0, none⟩) n cap) ∧ NS w0 rx bx b n cap (put l (o + 3) v) w' :=
  (setNext_any b n cap o x v l w hx h.pg (by have := h.pg.big; omega) hv0 hv1).mono fun _ _ ⟨he, ho, hp⟩ => ⟨he, (h.wrote ho hp).box, h.wrote ho hp⟩
theorem NS.slt {w0 w : World} {rx bx b n cap : Nat} {l : List Int} (o k : Nat) (x v : Int) (hx : x = k) (ho : o = n - 4 - (k + 1) * 2) (hk : k < 20) (hv0 : 0 ≤ v) (hv1 : v ≤ 65535) (h : NS w0 rx bx b n cap l w) :
    Calls Yba.prog 23 #[nd b n cap, .int .i64 x, .int .i64 v] w fun e w' => e = .returned (.tuple #[]) ∧ w'.cell? ⟨bx, 0, none⟩ = some (.slice (some ⟨b, 0, none⟩) n cap) ∧ NS w0 rx bx b n cap (put l o v) w' := by
  subst hx
  exact (setSlot_any b n cap o k v l w h.pg ho hk hv0 hv1).mono fun _ _ ⟨he, ho, hp⟩ => ⟨he, (h.wrote ho hp).box, h.wrote ho hp⟩

/-- The fresh page. -/
def page0 (n : Nat) (l : List Int) (kind level : Int) : List Int :=
  put (put (put (put (((put (put (put (put (((clr n l 0).set 0 kind).set 1 level) 4 2) 6 32) 15 0) 24 1).set 14 1).set 23 1) 17 23) 12 2) (n - 6) 14) (n - 8) 23

set_option maxHeartbeats 6400000 in
theorem newNode_any (b n cap : Nat) (kind level : Int) (l : List Int) (w : World) (hp : Pg w b n cap l) (hk0 : 0 ≤ kind) (hk1 : kind ≤ 255) (hl0 : 0 ≤ level) (hl1 : level ≤ 255) :
    Calls Yba.prog 11 #[.slice (some ⟨b, 0, none⟩) n cap, .int .u8 kind, .int .i64 level] w fun e w' => e = .returned (nd b n cap) ∧ Only b w w' ∧ Pg w' b n cap (page0 n l kind level) := by
  have hn1 := hp.big
  have hn2 := hp.small
  have bl := hp.buf.ic.lt
  obtain ⟨W0, hW0⟩ : ∃ W, W = w.alloc (.cells #[.slice none 0 0] 25) := ⟨_, rfl⟩
  have b0 : bufAt W0 b l := by rw [hW0]; exact hp.buf.kept (Below.heap_alloc _ _ _ bl)
  obtain ⟨W1, hW1⟩ : ∃ W, W = W0.setCells b 0 (List.replicate n (.int .u8 0)) := ⟨_, rfl⟩
  have hcl : ∀ ty, (Builtin.clear_ #[23] ty #[.slice (some ⟨b, 0, none⟩) n cap]).run Yba.prog (w.alloc (.cells #[.slice none 0 0] 25)) = .ok (.tuple #[]) W1 := by
    intro ty
    rw [← hW0, hW1]
    exact clear_buf ty b 0 n cap l W0 b0 (by omega) (by have := hp.len; omega)
  have b1 : bufAt W1 b (clr n l 0) := by rw [hW1]; exact b0.clr n 0 (by have := hp.len; omega)
  have s1 : W1.heap.size = w.heap.size + 1 := by rw [hW1, setCells_size, hW0]; simp
  have o01 : Only b W0 W1 := by rw [hW1]; exact (Only.refl _ _).setCells _ _
  have o1 : Only b w W1 := ((Only.refl b w).alloc (.cells #[.slice none 0 0] 25)).trans (by rw [← hW0]; exact o01)
  have hne : ¬ w.heap.size = b := by omega
  have s0 : W0.heap.size = w.heap.size + 1 := by rw [hW0]; simp
  have r1 : W1.cell? ⟨w.heap.size, 0, none⟩ = some (.slice none 0 0) := by
    rw [o01.cell (by omega) hne, hW0, World.cell?_alloc_new]; rfl
  have i1 : isC W1 w.heap.size := by
    refine isC.of_heap (w := W0) ?_ (o01.block _ (by omega) hne)
    rw [hW0]
    exact ⟨#[.slice none 0 0], 25, by show (w.heap.push _)[w.heap.size]? = _; simp⟩
  have hlen := hp.len
  obtain ⟨y0, c0⟩ : ∃ y, W1.cell? ⟨b, 0, none⟩ = some (.int .u8 y) := ⟨_, b1.cell 0 (by rw [clr_length]; omega)⟩
  obtain ⟨y1, c1⟩ : ∃ y, W1.cell? ⟨b, 1, none⟩ = some (.int .u8 y) := ⟨_, b1.cell 1 (by rw [clr_length]; omega)⟩
  have z := b1.ic.frozen
  have bl1 := b1.ic.lt
  have hns : NS w w.heap.size (w.heap.size + 1) b n cap (((clr n l 0).set 0 kind).set 1 level) ((((W1.setCell ⟨b, 0, none⟩ (.int .u8 kind)).setCell ⟨b, 1, none⟩ (.int .u8 level)).alloc (.cells #[.slice (some ⟨b, 0, none⟩) n cap] 25))) := by
    have ba := (b1.set 0 (by rw [clr_length]; omega) kind ⟨hk0, hk1⟩).set 1 (by rw [List.length_set, clr_length]; omega) level ⟨hl0, hl1⟩
    have oo : Only b W1 ((W1.setCell ⟨b, 0, none⟩ (.int .u8 kind)).setCell ⟨b, 1, none⟩ (.int .u8 level)) := ((Only.refl _ _).setCell _ _).setCell _ _
    have oa := oo.alloc (.cells #[.slice (some ⟨b, 0, none⟩) n cap] 25)
    have hs : ((W1.setCell ⟨b, 0, none⟩ (.int .u8 kind)).setCell ⟨b, 1, none⟩ (.int .u8 level)).heap.size = W1.heap.size := by simp
    refine ⟨?_, ?_, ?_, o1.trans oa, ⟨ba.kept (Below.heap_alloc _ _ _ ba.ic.lt), by simp [clr_length, hlen], hp.fit, hp.fitm, hn1, hn2⟩, ?_, ?_, ?_, hne⟩
    · rw [← s1, ← hs, World.cell?_alloc_new]; rfl
    · rw [oa.cell (by omega) hne]; exact r1
    · exact i1.of_heap (oa.block _ (by omega) hne)
    · simp; omega
    · simp; omega
    · omega
  have HN := hid hns
  have hfit := hp.fit
  have P4 := hid (fun W k (h : NS w w.heap.size (w.heap.size + 1) b n cap k W) => h.p16 4 4 2 rfl (by omega) (by omega) (by omega))
  have P6 := hid (fun W k (h : NS w w.heap.size (w.heap.size + 1) b n cap k W) => h.p16 6 6 32 rfl (by omega) (by omega) (by omega))
  have P15 := hid (fun W k (h : NS w w.heap.size (w.heap.size + 1) b n cap k W) => h.p16 15 15 0 rfl (by omega) (by omega) (by omega))
  have P24 := hid (fun W k (h : NS w w.heap.size (w.heap.size + 1) b n cap k W) => h.p16 24 24 1 rfl (by omega) (by omega) (by omega))
  have P12 := hid (fun W k (h : NS w w.heap.size (w.heap.size + 1) b n cap k W) => h.p16 12 12 2 rfl (by omega) (by omega) (by omega))
  have O14 := hid (fun W k (h : NS w w.heap.size (w.heap.size + 1) b n cap k W) => h.own 14 14 1 rfl (by omega) (by omega) (by omega))
  have O23 := hid (fun W k (h : NS w w.heap.size (w.heap.size + 1) b n cap k W) => h.own 23 23 1 rfl (by omega) (by omega) (by omega))
  have N14 := hid (fun W k (h : NS w w.heap.size (w.heap.size + 1) b n cap k W) => h.nxt 14 14 23 rfl (by omega) (by omega) (by omega))
  have S0 := hid (fun W k (h : NS w w.heap.size (w.heap.size + 1) b n cap k W) => h.slt (n - 6) 0 0 14 rfl (by omega) (by omega) (by omega) (by omega))
  have S1 := hid (fun W k (h : NS w w.heap.size (w.heap.size + 1) b n cap k W) => h.slt (n - 8) 1 1 23 rfl (by omega) (by omega) (by omega) (by omega))
  clear hns hW0 hW1 b0 b1 o01 o1 s0 hlen r1 i1 hp
  have hn0 : 0 < n := by omega
  have hn01 : (1 : Int) < (n : Int) := by omega
  go_enter Yba.func11, Yba.ntmps11
  go_wp2_with (first | simp only [hcl] | (go_at_call 17; with_reducible (refine Calls.mono (P4.out _ _ HN.out) ?_); rintro e w2 ⟨rfl, hbx2, hns2⟩) | (go_at_call 17; with_reducible (refine Calls.mono (P6.out _ _ hns2) ?_); rintro e w2 ⟨rfl, hbx2, hns2⟩) | (go_at_call 17; with_reducible (refine Calls.mono (P15.out _ _ hns2) ?_); rintro e w2 ⟨rfl, hbx2, hns2⟩) | (go_at_call 17; with_reducible (refine Calls.mono (P24.out _ _ hns2) ?_); rintro e w2 ⟨rfl, hbx2, hns2⟩) | (go_at_call 22; with_reducible (refine Calls.mono (O14.out _ _ hns2) ?_); rintro e w2 ⟨rfl, hbx2, hns2⟩) | (go_at_call 22; with_reducible (refine Calls.mono (O23.out _ _ hns2) ?_); rintro e w2 ⟨rfl, hbx2, hns2⟩) | (go_at_call 18; with_reducible (refine Calls.mono (N14.out _ _ hns2) ?_); rintro e w2 ⟨rfl, hbx2, hns2⟩) | (go_at_call 17; with_reducible (refine Calls.mono (P12.out _ _ hns2) ?_); rintro e w2 ⟨rfl, hbx2, hns2⟩) | (go_at_call 23; with_reducible (refine Calls.mono (S0.out _ _ hns2) ?_); rintro e w2 ⟨rfl, hbx2, hns2⟩) | (go_at_call 23; with_reducible (refine Calls.mono (S1.out _ _ hns2) ?_); rintro e w3 ⟨rfl, hbx3, hns3⟩; have hr3 := hns3.res; have hz3 := hns3.ires.frozen; have hl3 := hns3.rlt))
  rename_i hns3 hr3 hz3 hl3
  have hcell := World.cell?_setCell_same _ ⟨w.heap.size, 0, none⟩ (.slice (some ⟨b, 0, none⟩) n cap) hr3
  refine bodyPost_ret (v := nd b n cap) (by simp [results, Yba.results11, go_sem, hcell]) rfl ?_
  refine ⟨rfl, hns3.only.setNew (Nat.le_refl _) _ _, hns3.pg.kept (Below.heap_setCell _ ⟨w.heap.size, 0, none⟩ _ b ?_)⟩
  show b ≠ w.heap.size
  omega

set_option maxHeartbeats 3200000 in
theorem NewLeaf_any (b n cap : Nat) (l : List Int) (w : World) (hp : Pg w b n cap l) :
    Calls Yba.prog 6 #[.slice (some ⟨b, 0, none⟩) n cap] w fun e w' => e = .returned (nd b n cap) ∧ Only b w w' ∧ Pg w' b n cap (page0 n l 1 0) := by
  have bl := hp.buf.ic.lt
  obtain ⟨W0, hW0⟩ : ∃ W, W = w.alloc (.cells #[.slice none 0 0] 25) := ⟨_, rfl⟩
  have hp0 : Pg W0 b n cap l := by rw [hW0]; exact hp.kept (Below.heap_alloc _ _ _ bl)
  have o0 : Only b w W0 := by rw [hW0]; exact (Only.refl _ _).alloc _
  have s0 : W0.heap.size = w.heap.size + 1 := by rw [hW0]; simp
  have r0 : W0.cell? ⟨w.heap.size, 0, none⟩ = some (.slice none 0 0) := by rw [hW0, World.cell?_alloc_new]; rfl
  have i0 : isC W0 w.heap.size := by
    rw [hW0]
    exact ⟨#[.slice none 0 0], 25, by show (w.heap.push _)[w.heap.size]? = _; simp⟩
  have hne : ¬ w.heap.size = b := by omega
  have hC : Calls Yba.prog 11 #[.slice (some ⟨b, 0, none⟩) n cap, .int .u8 1, .int .i64 0] (w.alloc (.cells #[.slice none 0 0] 25)) fun e w' => e = .returned (nd b n cap) ∧ Only b w w' ∧ Pg w' b n cap (page0 n l 1 0) ∧ w'.cell? ⟨w.heap.size, 0, none⟩ = some (.slice none 0 0) ∧ isC w' w.heap.size := by
    rw [← hW0]
    refine (newNode_any b n cap 1 0 l W0 hp0 (by omega) (by omega) (by omega) (by omega)).mono ?_
    rintro e w' ⟨rfl, ho, hq⟩
    exact ⟨rfl, o0.trans ho, hq, (ho.cell (by omega) hne).trans r0, i0.of_heap (ho.block _ (by omega) hne)⟩
  have HC := hid hC
  clear hC hW0 hp0 o0 s0 r0 i0 hp W0
  go_enter Yba.func6, Yba.ntmps6
  go_wp2_with (first | (go_at_call 11; refine Calls.mono HC.out ?_; rintro e w2 ⟨rfl, ho2, hp2, hr2, hi2⟩; have hz2 := hi2.frozen; have hl2 := hi2.lt))
  have hcell := World.cell?_setCell_same _ ⟨w.heap.size, 0, none⟩ (.slice (some ⟨b, 0, none⟩) n cap) hr2
  refine bodyPost_ret (v := nd b n cap) (by simp [results, Yba.results6, go_sem, hcell]) rfl ?_
  refine ⟨rfl, ho2.setNew (Nat.le_refl _) _ _, hp2.kept (Below.heap_setCell _ ⟨w.heap.size, 0, none⟩ _ b ?_)⟩
  show b ≠ w.heap.size
  omega

set_option maxHeartbeats 3200000 in
theorem NewBranch_any (b n cap : Nat) (l : List Int) (w : World) (hp : Pg w b n cap l) :
    Calls Yba.prog 5 #[.slice (some ⟨b, 0, none⟩) n cap, .int .i64 1] w fun e w' => e = .returned (nd b n cap) ∧ Only b w w' ∧ Pg w' b n cap (page0 n l 2 1) := by
  have bl := hp.buf.ic.lt
  obtain ⟨W0, hW0⟩ : ∃ W, W = w.alloc (.cells #[.slice none 0 0] 25) := ⟨_, rfl⟩
  have hp0 : Pg W0 b n cap l := by rw [hW0]; exact hp.kept (Below.heap_alloc _ _ _ bl)
  have o0 : Only b w W0 := by rw [hW0]; exact (Only.refl _ _).alloc _
  have s0 : W0.heap.size = w.heap.size + 1 := by rw [hW0]; simp
  have r0 : W0.cell? ⟨w.heap.size, 0, none⟩ = some (.slice none 0 0) := by rw [hW0, World.cell?_alloc_new]; rfl
  have i0 : isC W0 w.heap.size := by
    rw [hW0]
    exact ⟨#[.slice none 0 0], 25, by show (w.heap.push _)[w.heap.size]? = _; simp⟩
  have hne : ¬ w.heap.size = b := by omega
  have hC : Calls Yba.prog 11 #[.slice (some ⟨b, 0, none⟩) n cap, .int .u8 2, .int .i64 1] (w.alloc (.cells #[.slice none 0 0] 25)) fun e w' => e = .returned (nd b n cap) ∧ Only b w w' ∧ Pg w' b n cap (page0 n l 2 1) ∧ w'.cell? ⟨w.heap.size, 0, none⟩ = some (.slice none 0 0) ∧ isC w' w.heap.size := by
    rw [← hW0]
    refine (newNode_any b n cap 2 1 l W0 hp0 (by omega) (by omega) (by omega) (by omega)).mono ?_
    rintro e w' ⟨rfl, ho, hq⟩
    exact ⟨rfl, o0.trans ho, hq, (ho.cell (by omega) hne).trans r0, i0.of_heap (ho.block _ (by omega) hne)⟩
  have HC := hid hC
  clear hC hW0 hp0 o0 s0 r0 i0 hp W0
  go_enter Yba.func5, Yba.ntmps5
  go_wp2_with (first | (go_at_call 11; refine Calls.mono HC.out ?_; rintro e w2 ⟨rfl, ho2, hp2, hr2, hi2⟩; have hz2 := hi2.frozen; have hl2 := hi2.lt))
  have hcell := World.cell?_setCell_same _ ⟨w.heap.size, 0, none⟩ (.slice (some ⟨b, 0, none⟩) n cap) hr2
  refine bodyPost_ret (v := nd b n cap) (by simp [results, Yba.results5, go_sem, hcell]) rfl ?_
  refine ⟨rfl, ho2.setNew (Nat.le_refl _) _ _, hp2.kept (Below.heap_setCell _ ⟨w.heap.size, 0, none⟩ _ b ?_)⟩
  show b ≠ w.heap.size
  omega
end Go.Proofs.Ybulkcnti
