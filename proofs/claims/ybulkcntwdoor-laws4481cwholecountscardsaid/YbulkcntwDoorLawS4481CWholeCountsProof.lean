import Derived.Test.YbulkcntwDoorOpen
import Derived.Test.YbulkcntwDoorTie
import Derived.Test.YbulkcntwDoorCards
import Derived.SevenTiedAt
import Derived.ProofKit
import Derived.OpenShut
import Derived.OpenVars
import Derived.ChangeOld
import Derived.ChangeVars
import Derived.Below
import Derived.JoinedOf
import Derived.LaidLaws
import Derived.LaidHandle
namespace Go.Proofs.YbulkcntwDoor.lawS4481CWholeCounts
open Go.ChangeShapes Go.WideShapes Go.ChangeAt Go.RowKit
set_option linter.unusedVariables false
set_option linter.unusedSimpArgs false

theorem own : ownKnob Ybad.prog.godebug = none := by kernel_rfl
theorem laidOut : laidOutB Ybad.prog = true := by kernel_rfl
theorem gOne : Ybad.prog.globalNamed "example.com/keyweave/keyweave.one" = some 0 := by kernel_rfl
theorem gOneT : (Ybad.prog.globals[0]?).map (·.type) = some 26 := by kernel_rfl

theorem list2 {α : Type} : ∀ {l : List α}, l.length = 2 → ∃ a b, l = [a, b]
  | [a, b], _ => ⟨a, b, rfl⟩
/-- What the condition gives the walk: the variable's two cells. -/
theorem one_of_laid {W : World} (h : laidMetH Ybad.prog Rows.lawS4481CWholeCountsRow.laid W) : One W := by
  have h' : laidMet Ybad.prog Rows.lawS4481CWholeCountsRow.laid W := h
  obtain ⟨ps, hl, _⟩ := h'
  obtain ⟨g, t, cs, fuel, p, q, e1, e2, e3, e4, _, _⟩ := hl
  obtain rfl : 0 = g := Option.some.inj (gOne.symm.trans e1)
  obtain rfl : 26 = t := Option.some.inj (gOneT.symm.trans e2)
  obtain ⟨xs, k, hk, hxy, hlen, hxl, hf⟩ := DataW.trod_struct Ybad.underlying26 e4
  rw [show Ybad.prog.cellsOf 26 = 2 by kernel_rfl] at hlen
  obtain ⟨v0, v1, hcs⟩ := list2 hlen
  obtain ⟨y0, y1, rfl⟩ := list2 (hxl.trans rfl)
  have g0 := hf 0 _ rfl
  have g1 := hf 1 _ rfl
  rw [hcs] at g0 g1
  simp [cells22] at g0 g1
  obtain ⟨z0, a0, b0, _⟩ := DataW.trod_int Ybad.underlying22 g0
  obtain ⟨z1, a1, b1, _⟩ := DataW.trod_int Ybad.underlying22 g1
  have hd : Rows.laid_example_com_keyweave_keyweave_one = DataW.agg [y0.1, y1.1] := by
    have := congrArg Prod.fst hxy
    simpa using this
  rw [b0, b1] at hd
  have hd2 : (DataW.agg [DataW.lit (.int .u64 0), DataW.lit (.int .u64 1)] : DataW Unit) = DataW.agg [DataW.lit (.int .u64 z0), DataW.lit (.int .u64 z1)] := hd
  simp at hd2
  obtain ⟨rfl, rfl⟩ := hd2
  simp at a0 a1
  have ecs : cs = #[.int .u64 0, .int .u64 1] := by
    apply Array.ext'
    rw [hcs, a0, a1]
  rw [ecs] at e3
  exact ⟨by simpa using World.var?_cell gOne e3 0, by simpa using World.var?_cell gOne e3 1⟩

/-- A world that meets the condition. -/
noncomputable def laidWorld (os : Os) : World :=
  let w0 := World.holding Ybad.prog os ⟨#[], #[], []⟩
  { w0 with heap := w0.heap.modify 0 fun
      | .cells _ t frozen => .cells #[.int .u64 0, .int .u64 1] t frozen
      | o => o }
abbrev args0 : Array Value := #[.int .u64 0, .int .u64 0, .bool false, .int .u8 0, .slice none 0 0, .slice none 0 0, .slice none 0 0]
theorem laidWorld_met (os : Os) : laidMetH Ybad.prog Rows.lawS4481CWholeCountsRow.laid ((laidWorld os).forCall (fun _ _ => 0) ⟨#[], args0, []⟩).memory := by
  show laidMet _ _ _
  exact laidMet_of_run (ps := [.cell 0 0, .cell 0 1]) 8 (by kernel_rfl) (by kernel_rfl) (by kernel_rfl)

set_option maxRecDepth 100000 in
theorem lifted (os : Os) (started : os.Started) (H : Type) (enc : TypeId × Value → H) :
    ReturnsInHanded {} Ybad.checked os 3 .any (fun w args => (Rows.lawS4481CWholeCountsSpec.pre enc Ybad.prog Ybad.f3 [] false w args ∧ laidMetH Ybad.prog Rows.lawS4481CWholeCountsRow.laid w) ∧ sizedMet enc Ybad.prog Ybad.f3 (OpenSpec.ofChange Rows.lawS4481CWholeCountsSpec) false w args)
      (Rows.lawS4481CWholeCountsSpec.post enc Ybad.prog Ybad.f3 false true false false) := by
  refine returnsInHanded_of_change_and (C := Ybad.checked) (X := fun w _ => laidMetH Ybad.prog Rows.lawS4481CWholeCountsRow.laid w) (fun _ _ _ hh h => h.of_heap hh) own started (by kernel_rfl) Ybad.func3
    (ChangeSpec.witness_at (enc := enc) (C := Ybad.checked) (os := os) (X := fun w _ => laidMetH Ybad.prog Rows.lawS4481CWholeCountsRow.laid w) false (laidWorld os) args0 8 rfl (by kernel_rfl) (by kernel_rfl) (by kernel_rfl) (by kernel_rfl) (by kernel_rfl) (laidWorld_met os)) ?_
  intro W base args ds gs before hval0 hW _ _ hL _
  have hval : ∀ (j : Nat) t v, Ybad.f3.params[j]? = some t → args[j]? = some v → Value.okWide Ybad.prog W .any base t v := hval0
  have hW' := hW
  obtain ⟨p, q, hA0, hV0, rfl, hnd⟩ := hW
  have hA : DataW.TrodAll enc Ybad.prog W 0 (fun _ => true) true Ybad.f3.params.toList args.toList ds p := hA0
  have hV : DataW.TrodVars enc Ybad.prog W (fun _ => true) ["example.com/keyweave/keyweave.one"] gs q := hV0
  rw [Ybad.params3] at hA hval
  obtain ⟨v0, vs0, d0, ds0, p0, q0, hargs, rfl, rfl, h0, r0⟩ := trodAll_cons hA
  obtain ⟨v1, vs1, d1, ds1, p1, q1, rfl, rfl, rfl, h1, r1⟩ := trodAll_cons r0
  obtain ⟨v2, vs2, d2, ds2, p2, q2, rfl, rfl, rfl, h2, r2⟩ := trodAll_cons r1
  obtain ⟨v3, vs3, d3, ds3, p3, q3, rfl, rfl, rfl, h3, r3⟩ := trodAll_cons r2
  obtain ⟨v4, vs4, d4, ds4, p4, q4, rfl, rfl, rfl, h4, r4⟩ := trodAll_cons r3
  obtain ⟨v5, vs5, d5, ds5, p5, q5, rfl, rfl, rfl, h5, r5⟩ := trodAll_cons r4
  obtain ⟨v6, vs6, d6, ds6, p6, q6, rfl, rfl, rfl, h6, r6⟩ := trodAll_cons r5
  obtain ⟨rfl, rfl, rfl⟩ := trodAll_nil r6
  obtain rfl : args = #[v0, v1, v2, v3, v4, v5, v6] := by cases args; simp_all
  obtain ⟨a0, rfl, rfl, rfl, wf0⟩ := open_int Ybad.underlying22 (hval 0 22 v0 rfl rfl) h0
  obtain ⟨a1, rfl, rfl, rfl, wf1⟩ := open_int Ybad.underlying22 (hval 1 22 v1 rfl rfl) h1
  obtain ⟨a2, rfl, rfl, rfl⟩ := open_bool Ybad.underlying4 (hval 2 4 v2 rfl rfl) h2
  obtain ⟨a3, rfl, rfl, rfl, wf3⟩ := open_int Ybad.underlying5 (hval 3 5 v3 rfl rfl) h3
  obtain ⟨s4, n4, c4, rfl⟩ := okWide_slice Ybad.underlying23 (hval 4 23 v4 rfl rfl)
  obtain ⟨s5, n5, c5, rfl⟩ := okWide_slice Ybad.underlying23 (hval 5 23 v5 rfl rfl)
  obtain ⟨s6, n6, c6, rfl⟩ := okWide_slice Ybad.underlying24 (hval 6 24 v6 rfl rfl)
  have lt4 : ∀ x ∈ p4, x.block < W.heap.size := by obtain ⟨m, hm⟩ := h4; exact DataW.trod_lt m _ _ _ hm
  have lt5 : ∀ x ∈ p5, x.block < W.heap.size := by obtain ⟨m, hm⟩ := h5; exact DataW.trod_lt m _ _ _ hm
  have lt6 : ∀ x ∈ p6, x.block < W.heap.size := by obtain ⟨m, hm⟩ := h6; exact DataW.trod_lt m _ _ _ hm
  obtain ⟨l4, e4, ok4, pr4, b4, z4⟩ := open_peers h4
  obtain ⟨l5, e5, ok5, pr5, b5, z5⟩ := open_peers h5
  obtain ⟨l6, e6, ok6, pb6, b6⟩ := open_branches h6
  have hO := one_of_laid hL
  have u0 := u64_wf wf0
  have u1 := u64_wf wf1
  have u3 := u8_wf wf3
  have hcall := drive_any a0.toNat a1.toNat a3.toNat a2 s4 s5 s6 n4 c4 n5 c5 n6 c6 l4 l5 l6 W (by have := hM; omega) (by have := hM; omega) (by omega) e4 e5 e6 pr4 pr5 pb6 ok4 ok5 ok6 hO b4 b5 b6 z4 z5
  rw [show ((a0.toNat : Nat) : Int) = a0 by omega, show ((a1.toNat : Nat) : Int) = a1 by omega, show ((a3.toNat : Nat) : Int) = a3 by omega] at hcall
  clear hA0 hval0
  have hg : ∃ g1, gs = [g1] := by
    cases gs with
    | nil => exact absurd hV (by intro h; cases h)
    | cons g r =>
      obtain ⟨_, _, _, _, _, _, _, _, _, _, hr, _⟩ := hV
      cases r with
      | nil => exact ⟨g, rfl⟩
      | cons x y => exact absurd hr (by intro h; cases h)
  obtain ⟨g1, rfl⟩ := hg
  refine hcall.mono fun e W' ⟨he, bel⟩ => ?_
  subst he
  exact ⟨_, rfl, _, _, _, [], _, _, hW', trodAll_mk1 (shut_bool Ybad.underlying4 _), (trodAll_cons_mk (shut_int Ybad.underlying22 wf0) (trodAll_cons_mk (shut_int Ybad.underlying22 wf1) (trodAll_cons_mk (shut_bool Ybad.underlying4 _) (trodAll_cons_mk (shut_int Ybad.underlying5 wf3) (trodAll_cons_mk (Below.trod laidOut (by kernel_rfl) (of_decide_eq_true (by kernel_rfl)) h4 bel lt4) (trodAll_cons_mk (Below.trod laidOut (by kernel_rfl) (of_decide_eq_true (by kernel_rfl)) h5 bel lt5) (trodAll_cons_mk (Below.trod laidOut (by kernel_rfl) (of_decide_eq_true (by kernel_rfl)) h6 bel lt6) trodAll_mk0))))))), Below.trodVars laidOut bel (by kernel_rfl) hV, bel.frame _, fun h => by cases h⟩

theorem row_holds : Rows.LawS4481CWholeCountsSaid :=
  OpenClaim.holds_of_wide 3 Ybad.f3 rfl rfl rfl rfl rfl rfl rfl ⟨rfl, rfl, rfl, rfl, rfl⟩ rfl rfl rfl rfl rfl (by kernel_rfl) Ybad.func3 (by kernel_rfl)
    (of_decide_eq_true (by kernel_rfl)) (by unfold Func.isWrapper; first | (rw [if_pos (by decide +kernel)]; kernel_rfl) | (rw [if_neg (by decide +kernel)]; exact ⟨rfl, rfl⟩))
    (fun os started H enc _ => lifted os started H enc)

/-- THE STATEMENT -/
theorem proved : Rows.LawS4481CWholeCountsCardSaid :=
  Claim7.holds_tied_plain_at .later [] [.data] true (true, "a5e748963878c60ecf44a03ac6b09b8454f78e620fcff34525c317edbaa8cac1") false
    row_holds (fun _ h => by cases h) (by kernel_rfl) (fun _ h => by cases h) lawS4481CWholeCounts_row_tie rfl ⟨rfl, rfl⟩ (by kernel_rfl) rfl
    (fun f fn hf hfn => by
      obtain rfl : f = 3 := Option.some.inj ((show Ybad.prog.funcNamed "example.com/keyweave/keyweave.LawS4481CWholeCounts" = some 3 by kernel_rfl).symm.trans hf) |>.symm
      obtain rfl : fn = Ybad.f3 := (Option.some.inj (Ybad.func3.symm.trans hfn)).symm
      exact ⟨by kernel_rfl, fun j t ht => by
        rw [Ybad.params3] at ht
        have h3 : t = 22 ∨ t = 4 ∨ t = 5 ∨ t = 23 ∨ t = 24 := by
          have hm := List.mem_of_getElem? (by simpa using ht : ([22, 22, 4, 5, 23, 23, 24] : List TypeId)[j]? = some t)
          simp at hm
          omega
        rcases h3 with rfl | rfl | rfl | rfl | rfl
        · exact (show Ybad.prog.wantsStandIn 22 = false by kernel_rfl)
        · exact (show Ybad.prog.wantsStandIn 4 = false by kernel_rfl)
        · exact (show Ybad.prog.wantsStandIn 5 = false by kernel_rfl)
        · exact (show Ybad.prog.wantsStandIn 23 = false by kernel_rfl)
        · exact (show Ybad.prog.wantsStandIn 24 = false by kernel_rfl)⟩)
    (by kernel_rfl)
end Go.Proofs.YbulkcntwDoor.lawS4481CWholeCounts
