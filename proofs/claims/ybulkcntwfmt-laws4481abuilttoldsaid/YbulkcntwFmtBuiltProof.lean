import Derived.Test.YbulkcntwFmtLift
import Derived.Test.YbulkcntwFmtBuilt
namespace Go.Proofs.YbulkcntwFmt.lawS4481ABuilt
open Go.ChangeShapes Go.WideShapes Go.ChangeAt Go.RowKit Go.Kit
open Go.Extern.Stop Go.Stop Go.Extern
open Go.ChangeMaps (open_string shut_string)
set_option linter.unusedVariables false
set_option linter.unusedSimpArgs false

theorem u8_wf {a : Int} (h : (Lit.int .u8 a).wf = true) : 0 ≤ a ∧ a ≤ 255 := by
  simp [Lit.wf, IntKind.min, IntKind.max, IntKind.bits, IntKind.signed] at h
  omega
theorem laid_met2 (os : Os) (args : Array Value) : laidMet Ybaf.prog Rows.lawS4481ABuiltRow.laid ((laidWorld os 0 badS).forCall (fun _ _ => 0) ⟨#[], args, []⟩).memory :=
  laidMet_of_run (ps := [.cell 0 0, .cell low 0]) 8 (by kernel_rfl) (by kernel_rfl) (by kernel_rfl)

set_option maxRecDepth 100000 in
set_option maxHeartbeats 1600000 in
theorem lifted (os : Os) (started : os.Started) (H : Type) (enc : TypeId × Value → H) :
    ReturnsInTold none {} Ybaf.checked os 4 .any Input.okWide ((OpenSpec.ofChange Rows.lawS4481ABuiltSpec).preRow enc Ybaf.prog Ybaf.f4 [] false Rows.lawS4481ABuiltRow.laid) (fun F => ((OpenSpec.ofChange Rows.lawS4481ABuiltSpec).at F.told).post enc Ybaf.prog Ybaf.f4 false true false false) (aloneAtReturn Ybaf.prog) nothingAlways := by
  refine returnsInTold_of_row (C := Ybaf.checked) (s := OpenSpec.ofChange Rows.lawS4481ABuiltSpec) (by kernel_rfl) Ybaf.own started (by kernel_rfl) Ybaf.func4
    (OpenSpec.witness_stopped_at (enc := enc) (C := Ybaf.checked) false (laidWorld os 0 badS) #[.string ⟨#[]⟩, .slice none 0 0] rfl (by kernel_rfl) (by kernel_rfl) (by kernel_rfl)
      (OpenSpec.preRow_of_B rfl 8 (by kernel_rfl) (by kernel_rfl) (laid_met2 os _))) ?_
  intro F W base0 args ds gs before _ hF hval0 hW _ _ _ hL _
  have hval : ∀ (j : Nat) t v, Ybaf.f4.params[j]? = some t → args[j]? = some v → Value.okWide Ybaf.prog W .any base0 t v := hval0
  have hW' := hW
  obtain ⟨p, q, hA0, hV0, rfl, hfz, hnd⟩ := hW
  have hA : DataW.TrodAll enc Ybaf.prog W 0 (fun _ => true) true Ybaf.f4.params.toList args.toList ds p := hA0
  have hV : DataW.TrodVars enc Ybaf.prog W (fun _ => true) ["example.com/keyweave/keyweave.ErrBadKeyword"] gs q := hV0
  rw [Ybaf.params4] at hA hval
  obtain ⟨v0, v1, d0, d1, p0, p1, rfl, rfl, rfl, h0, h1⟩ := trodAll_two hA
  obtain ⟨name, rfl, rfl, rfl, wn⟩ := open_string Ybaf.underlying9 (hval 0 9 v0 rfl rfl) h0
  obtain ⟨pa, n, cap, rfl⟩ := okWide_slice Ybaf.underlying24 (hval 1 24 v1 rfl rfl)
  have k1 := h1
  have lt1 : ∀ x ∈ p1, x.block < W.heap.size := by obtain ⟨m, hm⟩ := k1; exact DataW.trod_lt m _ _ _ hm
  obtain ⟨x, hn, hx⟩ : ∃ x : Nat → Nat, n ≤ 9223372036854775807 ∧ (0 < n → ∃ A, pa = some A ∧ A.block < W.heap.size ∧ ∀ i, i < n → W.cell? (A.add i) = some (.int .u8 (x i : Int)) ∧ x i ≤ 255) := by
    obtain ⟨fuel, hf⟩ := h1
    rcases open_ints Ybaf.underlying24 Ybaf.underlying5 (by kernel_rfl) hf with ⟨hcs, _⟩ | ⟨A, l, c, zs, hcs, _, hl, hm, hz, _, hcell, hwz⟩
    · simp [Value.cells] at hcs
      obtain ⟨rfl, rfl, rfl⟩ := hcs
      exact ⟨fun _ => 0, by omega, fun h => by omega⟩
    · simp [Value.cells] at hcs
      obtain ⟨rfl, rfl, rfl⟩ := hcs
      have hlen : n ≤ zs.length := by rw [hz]; split <;> omega
      have hmx : maxLen = 9223372036854775807 := rfl
      refine ⟨fun i => (zs.getD i 0).toNat, by omega, fun h => ⟨A, rfl, ?_, fun i hi => ?_⟩⟩
      · have := cell_lt (hcell 0 (by omega))
        rwa [add_block] at this
      · have hr : 0 ≤ zs.getD i 0 ∧ zs.getD i 0 ≤ 255 := by
          refine u8_wf (hwz _ ?_)
          rw [List.getD_eq_getElem?_getD, List.getElem?_eq_getElem (by omega : i < zs.length)]
          exact List.getElem_mem _
        refine ⟨?_, by show (zs.getD i 0).toNat ≤ 255; omega⟩
        rw [hcell i (by omega)]
        show some (Value.int .u8 (zs.getD i 0)) = some (Value.int .u8 (((zs.getD i 0).toNat : Nat) : Int))
        rw [Int.toNat_of_nonneg hr.1]
  obtain ⟨a1, s1, hv1, hc1, hs1, hz1⟩ := laid_sentinel hL Ybaf.gE Ybaf.gEType Ybaf.underlying28 Ybaf.row58 Ybaf.underlying58 Ybaf.underlying60 rfl rfl Ybaf.underlying9 Ybaf.cells60 Ybaf.cells9
  obtain ⟨rfl, rfl⟩ := hV.unique (vars_read1 enc Ybaf.gE Ybaf.gEType Ybaf.underlying28 hv1 trivial _)
  clear hA0 hV0 hval0
  have hg1 : W.cell? ⟨0, 0, none⟩ = some (.iface 58 (.pointer (some a1))) := by simpa using World.var?_cell Ybaf.gE hv1 0
  have hS : Sen F.told a1 s1 W := ⟨cell_lt hg1, cell_lt hc1, hF, hg1, hc1⟩
  refine (built_any F.told a1 s1 name pa n cap x W hS hn hx).mono fun e W' ⟨he, hB⟩ => ?_
  subst he
  refine ⟨_, rfl, _, _, _, [], [] ++ p1, [.cell 0 0], hW', ?_, ?_, ?_, hB.frame _, fun h => by cases h⟩
  · exact trodAll_mk1 (shut_bool Ybaf.underlying4 _)
  · exact trodAll_mk2 (shut_string Ybaf.underlying9 wn) (Below.trod Ybaf.laidOut (by kernel_rfl) (of_decide_eq_true (by kernel_rfl)) k1 hB lt1)
  · exact vars_read1 enc Ybaf.gE Ybaf.gEType Ybaf.underlying28 (var?_below hB Ybaf.gE hS.h0 hv1) trivial _

/-- THE STATEMENT -/
theorem proved : Rows.LawS4481ABuiltToldSaid :=
  Claim7.holds_of_told_tied_any_at .later 4 Ybaf.f4 "fmt.errorf" [] [] _ _ _ _ _ (by kernel_rfl) rfl rfl rfl Ybaf.laidOut (by kernel_rfl) rfl ⟨rfl, rfl, rfl, rfl, rfl, rfl, rfl⟩ rfl rfl (by kernel_rfl) (by kernel_rfl) Ybaf.func4 (by kernel_rfl)
    (of_decide_eq_true (by kernel_rfl)) (of_decide_eq_true (by kernel_rfl)) Ybaf.stops.symm rfl Ybaf.stopKnobs.symm (by kernel_rfl)
    (by kernel_rfl) (by kernel_rfl) (by kernel_rfl) (by kernel_rfl) (by kernel_rfl) (by kernel_rfl) (by kernel_rfl) (by kernel_rfl) (by kernel_rfl) rfl (by kernel_rfl) rfl rfl
    rfl rfl
    rfl (by kernel_rfl) (by kernel_rfl) (by kernel_rfl) (by decide) (by kernel_rfl) lawS4481ABuilt_row_tie
    (OpenClaim.moreEntering_of (by kernel_rfl) (by kernel_rfl) (by kernel_rfl) (by kernel_rfl) (by kernel_rfl) (by kernel_rfl) (by kernel_rfl) (by kernel_rfl) (by kernel_rfl) (by kernel_rfl))
    ⟨_, WideRow.started_initial, Ybaf.quiet _⟩
    (fun os started _ H enc _ => lifted os started H enc)
end Go.Proofs.YbulkcntwFmt.lawS4481ABuilt
