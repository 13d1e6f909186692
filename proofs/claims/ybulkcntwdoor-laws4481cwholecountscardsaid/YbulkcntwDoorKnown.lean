import Derived.Test.YbulkcntwDoorAround
import Derived.Test.YbulkcntwDoorRing
namespace Go.Proofs.YbulkcntwDoor
open Go.RowKit Go.Sort
set_option linter.unusedVariables false
set_option linter.unusedSimpArgs false

/-- What is asked of sharesOf. -/
def SharesOk : Prop := ∀ (g n cap : Nat) (d : List C) (w : World), One w → Row g d w → n = d.length → n ≤ 100 → n ≤ cap → cap ≤ 9223372036854775807 → (∀ c ∈ d, c.ok) →
    Calls Ybad.prog 48 #[.slice (some ⟨g, 0, none⟩) n cap, .bool true] w fun e w' => ∃ sv shs, e = .returned (.agg #[sv, .bool true]) ∧ shs.map Sh.c = d ∧ w'.ownsRow w.heap.size 65 7 sv n (encsS shs) ∧ Below w.heap.size w w'

/-- A known arc. -/
structure Arc (rb sh sl : Nat) (all : List C) (sg sc : Nat) (shs : List Sh) (r : List C) (w : World) : Prop where
  ring : RingOf sh sl all r
  eq : shs.map Sh.c = r
  len : r.length ≤ 31
  own : w.ownsRow 1 65 7 (.slice (some ⟨sg, 0, none⟩) r.length sc) r.length (encsS shs)
  ne : ¬ sg = rb
theorem Arc.lt {rb sh sl : Nat} {all : List C} {sg sc : Nat} {shs : List Sh} {r : List C} {w : World} (h : Arc rb sh sl all sg sc shs r w) : sg < w.heap.size := (h.own.lt sg rfl).2
theorem Arc.only {b rb sh sl : Nat} {all : List C} {sg sc : Nat} {shs : List Sh} {r : List C} {w w' : World} (h : Arc rb sh sl all sg sc shs r w) (ho : Only b w w') (hb : ¬ sg = b) : Arc rb sh sl all sg sc shs r w' :=
  ⟨h.ring, h.eq, h.len, own_only h.own ho (fun k hk => by cases hk; exact hb), h.ne⟩

/-- The node's routes, all that a call on them needs. -/
structure Kn (rb sh sl wd mb : Nat) (L : List (Nat × Nat)) (g1 n1 c1 g2 n2 c2 : Nat) (d1 d2 : List C) (w : World) : Prop where
  rts : Rts rb sh sl wd mb L g1 n1 c1 g2 n2 c2 d1 d2 w
  one : One w
  rb0 : ¬ 0 = rb
  ng1 : ¬ g1 = rb
  ng2 : ¬ g2 = rb
  ic : isC w rb
  ok : ∀ c ∈ ([⟨sh, sl, ⟨#[]⟩⟩] ++ d1 ++ d2), c.ok
  wdb : wd ≤ 8
  knw : w.cell? ⟨rb, 10, none⟩ = some (.pointer none) ∨ ∃ ka sg sc shs r, w.cell? ⟨rb, 10, none⟩ = some (.pointer (some ⟨ka, 0, none⟩)) ∧ ¬ ka = rb ∧ Bx ka 82 #[.slice (some ⟨sg, 0, none⟩) r.length sc, .bool true] w ∧ Arc rb sh sl ([⟨sh, sl, ⟨#[]⟩⟩] ++ d1 ++ d2) sg sc shs r w
section
variable {rb sh sl wd mb : Nat} {L : List (Nat × Nat)} {g1 n1 c1 g2 n2 c2 : Nat} {d1 d2 : List C} {w w' : World}
theorem Rts.chg (h : Rts rb sh sl wd mb L g1 n1 c1 g2 n2 c2 d1 d2 w) (ho : Only rb w w') (hc : ∀ i, ¬ i = 10 → w'.cell? ⟨rb, i, none⟩ = w.cell? ⟨rb, i, none⟩) (hic : isC w rb) (q1 : ¬ g1 = rb) (q2 : ¬ g2 = rb) : Rts rb sh sl wd mb L g1 n1 c1 g2 n2 c2 d1 d2 w' :=
  ⟨(hc 0 (by omega)).trans h.hi, (hc 1 (by omega)).trans h.lo, (hc 2 (by omega)).trans h.wid, (hc 4 (by omega)).trans h.cw, (hc 5 (by omega)).trans h.ccw, (hc 6 (by omega)).trans h.stp, (hc 7 (by omega)).trans h.mks, h.mp.only ho (h.mp.not_isC hic), h.r1.only ho q1, h.r2.only ho q2, h.l1, h.l2, h.b1, h.b2⟩
theorem Kn.below (h : Kn rb sh sl wd mb L g1 n1 c1 g2 n2 c2 d1 d2 w) (hb : Below w.heap.size w w') : Kn rb sh sl wd mb L g1 n1 c1 g2 n2 c2 d1 d2 w' :=
  ⟨h.rts.below hb, h.one.below hb, h.rb0, h.ng1, h.ng2, h.ic.of_heap (hb.block _ h.ic.lt), h.ok, h.wdb, by
    have e := hb.cell (p := ⟨rb, 10, none⟩) h.ic.lt
    rcases h.knw with k | ⟨ka, sg, sc, shs, r, k1, k2, k3, k4⟩
    · exact .inl (e.trans k)
    · exact .inr ⟨ka, sg, sc, shs, r, e.trans k1, k2, k3.read hb, ⟨k4.ring, k4.eq, k4.len, own_below k4.own hb, k4.ne⟩⟩⟩
theorem Kn.chg (h : Kn rb sh sl wd mb L g1 n1 c1 g2 n2 c2 d1 d2 w) (ho : Only rb w w') (hc : ∀ i, ¬ i = 10 → w'.cell? ⟨rb, i, none⟩ = w.cell? ⟨rb, i, none⟩) (hic : isC w' rb)
    (hk : ∃ ka sg sc shs r, w'.cell? ⟨rb, 10, none⟩ = some (.pointer (some ⟨ka, 0, none⟩)) ∧ ¬ ka = rb ∧ Bx ka 82 #[.slice (some ⟨sg, 0, none⟩) r.length sc, .bool true] w' ∧ Arc rb sh sl ([⟨sh, sl, ⟨#[]⟩⟩] ++ d1 ++ d2) sg sc shs r w') : Kn rb sh sl wd mb L g1 n1 c1 g2 n2 c2 d1 d2 w' :=
  ⟨h.rts.chg ho hc h.ic h.ng1 h.ng2, ⟨(ho.cell (lt_of_cell h.one.hi) h.rb0).trans h.one.hi, (ho.cell (lt_of_cell h.one.hi) h.rb0).trans h.one.lo⟩, h.rb0, h.ng1, h.ng2, hic, h.ok, h.wdb, .inr hk⟩
end
theorem Only.setNew {b : Nat} {w w' : World} (h : Only b w w') (a : Addr) (v : Value) (ha : w.heap.size ≤ a.block) : Only b w (w'.setCell a v) :=
  ⟨h.os, h.tape, h.output, by simp; exact h.size, fun k hk hb => (Below.heap_setCell _ _ _ _ (by omega)).trans (h.block k hk hb)⟩

set_option maxHeartbeats 2000000 in
theorem knownArc_any (HSO : SharesOk) (rb sh sl wd mb : Nat) (L : List (Nat × Nat)) (g1 n1 c1 g2 n2 c2 : Nat) (d1 d2 : List C) (w : World) (hK : Kn rb sh sl wd mb L g1 n1 c1 g2 n2 c2 d1 d2 w) :
    Calls Ybad.prog 34 #[.pointer (some ⟨rb, 0, none⟩)] w fun e w' => ∃ sg sc shs r, e = .returned (.agg #[.slice (some ⟨sg, 0, none⟩) r.length sc, .bool true]) ∧ Arc rb sh sl ([⟨sh, sl, ⟨#[]⟩⟩] ++ d1 ++ d2) sg sc shs r w' ∧ Kn rb sh sl wd mb L g1 n1 c1 g2 n2 c2 d1 d2 w' ∧ Only rb w w' := by
  have HK := hid hK
  obtain ⟨w1, hw1⟩ : ∃ w1, w1 = w.alloc (.cells #[.slice none 0 0, .bool false] 82) := ⟨_, rfl⟩
  have HB1 : Hid (Below w.heap.size w w1) := hid (hw1 ▸ (Below.refl _ _).alloc (Nat.le_refl _) _)
  have HX1 : Hid (Bx w.heap.size 82 #[.slice none 0 0, .bool false] w1) := hid (by rw [hw1]; exact heap_alloc_new _ _)
  have HK1 : Hid (Kn rb sh sl wd mb L g1 n1 c1 g2 n2 c2 d1 d2 w1) := hid (hK.below HB1.out)
  have HL : Hid (rb < w.heap.size) := hid hK.ic.lt
  have hknw := HK1.out.knw
  clear hK
  have hne1 : ¬ rb = w.heap.size := by have := HL.out; omega
  have hne2 : ¬ w.heap.size = rb := by have := HL.out; omega
  rcases hknw with c10 | ⟨ka, sg, sc, shs, r, c10, hka, hbx, harc⟩
  · have HAR := hid (around_any false rb sh sl wd mb L g1 n1 c1 g2 n2 c2 d1 d2 w1 HK1.out.rts)
    go_enter Ybad.func34, Ybad.ntmps34
    go_upto_region 1 with fail
    rw [← hw1]
    clear hw1
    go_upto_region 3 with (first | (go_at_call 14; with_reducible (refine Calls.mono HAR.out ?_); rintro e w2 ⟨g, cap, d', rfl, hg, hcap1, h31, hcap2, hr2, hb2, hring⟩) | fail)
    have HRG : Hid (RingOf sh sl ([⟨sh, sl, ⟨#[]⟩⟩] ++ d1 ++ d2) d') := hid (by first | exact hring | exact hring rfl | exact hring trivial)
    have HB2 := hid hb2
    have HSH := hid (HSO g d'.length cap d' w2 (HK1.out.one.below hb2) hr2 rfl (by omega) hcap1 hcap2 (HRG.out.ok HK1.out.ok))
    clear hb2 hr2 hring
    go_upto_region 4 with (first | (go_at_call 48; with_reducible (refine Calls.mono HSH.out ?_); rintro e w3 ⟨sv, shs, rfl, heq, hown, hb3⟩; obtain ⟨sg, sc, rfl, hsg, _, _, _⟩ := own_some hown (HRG.out.pos (by simp))) | fail)
    obtain ⟨w4, hw4⟩ : ∃ w4, w4 = w3.alloc (.cells #[.slice (some ⟨sg, 0, none⟩) d'.length sc, .bool true] 82) := ⟨_, rfl⟩
    rw [← hw4]
    have HB4 : Hid (Below w1.heap.size w1 w4) := hid ((HB2.out.trans (hb3.mono HB2.out.size)).trans (hw4 ▸ ((Below.refl _ w3).alloc (by have := HB2.out.size; have := hb3.size; omega) _)))
    have HX4 : Hid (Bx w3.heap.size 82 #[.slice (some ⟨sg, 0, none⟩) d'.length sc, .bool true] w4) := hid (by rw [hw4]; exact heap_alloc_new _ _)
    have HSZ : Hid (w.heap.size < w1.heap.size ∧ w1.heap.size ≤ w2.heap.size ∧ w2.heap.size ≤ w3.heap.size ∧ w2.heap.size ≤ sg) := hid ⟨HX1.out.lt, HB2.out.size, hb3.size, hsg⟩
    have HO4 : Hid (w4.ownsRow w2.heap.size 65 7 (.slice (some ⟨sg, 0, none⟩) d'.length sc) d'.length (encsS shs)) := hid (by rw [hw4]; exact hown.alloc _)
    have HK4 : Hid (Kn rb sh sl wd mb L g1 n1 c1 g2 n2 c2 d1 d2 w4) := hid (HK1.out.below HB4.out)
    have HY4 : Hid (Bx w.heap.size 82 #[.slice none 0 0, .bool false] w4) := hid (HX1.out.read HB4.out)
    have d10 : w4.cell? ⟨rb, 10, none⟩ = some (.pointer none) := (HB4.out.cell (p := ⟨rb, 10, none⟩) HK1.out.ic.lt).trans c10
    have z10 : w4.frozen? ⟨rb, 10, none⟩ = false := HK4.out.ic.frozen _
    have HEQ := hid heq
    clear hw4 hown hb3 heq hsg c10
    obtain ⟨w5, hw5⟩ : ∃ w5, w5 = w4.setCell ⟨rb, 10, none⟩ (.pointer (some ⟨w3.heap.size, 0, none⟩)) := ⟨_, rfl⟩
    have hk5 : ¬ w3.heap.size = rb := by have := HSZ.out; have := HL.out; omega
    have hk6 : ¬ w3.heap.size = w.heap.size := by have := HSZ.out; omega
    have e10 : w5.cell? ⟨rb, 10, none⟩ = some (.pointer (some ⟨w3.heap.size, 0, none⟩)) := by rw [hw5]; exact World.cell?_setCell_same _ _ _ d10
    have HX5 : Hid (Bx w3.heap.size 82 #[.slice (some ⟨sg, 0, none⟩) d'.length sc, .bool true] w5) := hid (by rw [hw5]; exact HX4.out.other _ _ _ hk5)
    have HY5 : Hid (Bx w.heap.size 82 #[.slice none 0 0, .bool false] w5) := hid (by rw [hw5]; exact HY4.out.other _ _ _ hne2)
    have HO5 : Hid (w5.ownsRow w2.heap.size 65 7 (.slice (some ⟨sg, 0, none⟩) d'.length sc) d'.length (encsS shs)) := hid (by rw [hw5]; exact ownsRow_setCell_below HO4.out (by have := HSZ.out; have := HL.out; dsimp only; omega) _)
    have HC5 : Hid (∀ i, ¬ i = 10 → w5.cell? ⟨rb, i, none⟩ = w.cell? ⟨rb, i, none⟩) := hid (fun i hi => by rw [hw5, sc_off _ _ _ _ _ _ (fun h => hi h.symm)]; exact (HB4.out.cell (p := ⟨rb, i, none⟩) HK1.out.ic.lt).trans (HB1.out.cell (p := ⟨rb, i, none⟩) HL.out))
    have HN5 : Hid (Only rb w w5) := hid (by rw [hw5]; exact ((Only.of_below HB1.out).trans (Only.of_below HB4.out)).setCell _ _)
    have HI5 : Hid (isC w5 rb) := hid (by rw [hw5]; exact HK4.out.ic.setCell _ _)
    obtain ⟨⟨x0, x1⟩, _⟩ := HX5.out.two
    obtain ⟨⟨y0, y1⟩, y2, y3⟩ := HY5.out.two
    go_upto_region 5 with fail
    rw [← hw5]
    clear hw5 d10 z10
    have r0 : (w5.setCell ⟨w.heap.size, 0, none⟩ (.slice (some ⟨sg, 0, none⟩) d'.length sc)).cell? ⟨w.heap.size, 0, none⟩ = some (.slice (some ⟨sg, 0, none⟩) d'.length sc) := World.cell?_setCell_same _ _ _ y0
    have r1 : ((w5.setCell ⟨w.heap.size, 0, none⟩ (.slice (some ⟨sg, 0, none⟩) d'.length sc)).setCell ⟨w.heap.size, 1, none⟩ (.bool true)).cell? ⟨w.heap.size, 1, none⟩ = some (.bool true) := World.cell?_setCell_same _ _ _ ((sc_off _ _ _ _ _ _ (by omega)).trans y1)
    go_wp2
    refine bodyPost_ret (v := .agg #[.slice (some ⟨sg, 0, none⟩) d'.length sc, .bool true]) (by simp [results, Ybad.results34, go_sem, r0, r1]) rfl ?_
    have HN6 : Only rb w ((w5.setCell ⟨w.heap.size, 0, none⟩ (.slice (some ⟨sg, 0, none⟩) d'.length sc)).setCell ⟨w.heap.size, 1, none⟩ (.bool true)) := (HN5.out.setNew _ _ (Nat.le_refl _)).setNew _ _ (Nat.le_refl _)
    have HA6 : Arc rb sh sl ([⟨sh, sl, ⟨#[]⟩⟩] ++ d1 ++ d2) sg sc shs d' ((w5.setCell ⟨w.heap.size, 0, none⟩ (.slice (some ⟨sg, 0, none⟩) d'.length sc)).setCell ⟨w.heap.size, 1, none⟩ (.bool true)) := ⟨HRG.out, HEQ.out, h31, own_base (ownsRow_setCell_below (ownsRow_setCell_below HO5.out (by have := HSZ.out; dsimp only; omega) _) (by have := HSZ.out; dsimp only; omega) _) (by have := HSZ.out; omega), by have := HSZ.out; have := HL.out; omega⟩
    refine ⟨sg, sc, shs, d', rfl, HA6, HK.out.chg HN6 (fun i hi => ?_) ((HI5.out.setCell _ _).setCell _ _) ⟨w3.heap.size, sg, sc, shs, d', ?_, hk5, ?_, HA6⟩, HN6⟩
    · rw [sc_ne _ _ _ _ _ _ hne2, sc_ne _ _ _ _ _ _ hne2]; exact HC5.out i hi
    · rw [sc_ne _ _ _ _ _ _ hne2, sc_ne _ _ _ _ _ _ hne2]; exact e10
    · exact (HX5.out.other _ _ _ hk6).other _ _ _ hk6
  · have hkl : Hid (ka < w1.heap.size ∧ sg < w1.heap.size) := hid ⟨hbx.lt, harc.lt⟩
    have HBX := hid hbx
    have HARC := hid harc
    obtain ⟨⟨x0, x1⟩, _⟩ := HBX.out.two
    obtain ⟨⟨y0, y1⟩, y2, y3⟩ := HX1.out.two
    have hkw : Hid (¬ ka = w.heap.size ∧ ¬ sg = w.heap.size) := hid ⟨fun e => by
      have h1 := HBX.out; have h2 := HX1.out; rw [e] at h1; unfold Bx at h1 h2; rw [h1] at h2; simp at h2, fun e => by
      rcases HARC.out.own.2 with ⟨h0, _⟩ | ⟨g', cap', cur, h0, _, h1, _⟩
      · cases h0
      · cases h0; have h2 := HX1.out; rw [e] at h1; unfold Bx at h2; rw [h1] at h2; simp at h2⟩
    clear hbx harc
    go_enter Ybad.func34, Ybad.ntmps34
    go_upto_region 1 with fail
    rw [← hw1]
    clear hw1
    have r0 : (w1.setCell ⟨w.heap.size, 0, none⟩ (.slice (some ⟨sg, 0, none⟩) r.length sc)).cell? ⟨w.heap.size, 0, none⟩ = some (.slice (some ⟨sg, 0, none⟩) r.length sc) := World.cell?_setCell_same _ _ _ y0
    have r1 : ((w1.setCell ⟨w.heap.size, 0, none⟩ (.slice (some ⟨sg, 0, none⟩) r.length sc)).setCell ⟨w.heap.size, 1, none⟩ (.bool true)).cell? ⟨w.heap.size, 1, none⟩ = some (.bool true) := World.cell?_setCell_same _ _ _ ((sc_off _ _ _ _ _ _ (by omega)).trans y1)
    go_wp2
    refine bodyPost_ret (v := .agg #[.slice (some ⟨sg, 0, none⟩) r.length sc, .bool true]) (by simp [results, Ybad.results34, go_sem, r0, r1]) rfl ?_
    have HN6 : Only rb w ((w1.setCell ⟨w.heap.size, 0, none⟩ (.slice (some ⟨sg, 0, none⟩) r.length sc)).setCell ⟨w.heap.size, 1, none⟩ (.bool true)) := ((Only.of_below HB1.out).setNew _ _ (Nat.le_refl _)).setNew _ _ (Nat.le_refl _)
    have HA6 : Arc rb sh sl ([⟨sh, sl, ⟨#[]⟩⟩] ++ d1 ++ d2) sg sc shs r ((w1.setCell ⟨w.heap.size, 0, none⟩ (.slice (some ⟨sg, 0, none⟩) r.length sc)).setCell ⟨w.heap.size, 1, none⟩ (.bool true)) := HARC.out.only (((Only.refl w.heap.size w1).setCell _ _).setCell _ _) hkw.out.2
    refine ⟨sg, sc, shs, r, rfl, HA6, HK.out.chg HN6 (fun i hi => ?_) ((HK1.out.ic.setCell _ _).setCell _ _) ⟨ka, sg, sc, shs, r, ?_, hka, ?_, HA6⟩, HN6⟩
    · rw [sc_ne _ _ _ _ _ _ hne2, sc_ne _ _ _ _ _ _ hne2]; exact HB1.out.cell (p := ⟨rb, i, none⟩) HL.out
    · rw [sc_ne _ _ _ _ _ _ hne2, sc_ne _ _ _ _ _ _ hne2]; exact c10
    · exact (HBX.out.other _ _ _ hkw.out.1).other _ _ _ hkw.out.1
end Go.Proofs.YbulkcntwDoor
