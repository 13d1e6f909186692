import Derived.Test.YbulkcntiFree
import Derived.WalkKit
import Derived.ProofKit
import Derived.OpenShut
import Derived.ShutString
import Derived.ChangeOld
import Derived.Below
namespace Go.Proofs.Ybulkcnti.lawS4480CFreeList
open Go.ChangeShapes Go.WideShapes Go.ChangeAt Go.RowKit
open Go.ChangeMaps (open_string shut_string)
set_option linter.unusedVariables false
set_option linter.unusedSimpArgs false

theorem u16_wf {a : Int} (h : (Lit.int .u16 a).wf = true) : 0 ≤ a ∧ a ≤ 65535 := by
  simp [Lit.wf, IntKind.min, IntKind.max, IntKind.bits, IntKind.signed] at h
  omega
theorem cell_lt {w : World} {a : Addr} {v : Value} (h : w.cell? a = some v) : a.block < w.heap.size := by
  rcases Nat.lt_or_ge a.block w.heap.size with h1 | h1
  · exact h1
  · unfold World.cell? at h
    rw [Array.getElem?_eq_none h1] at h
    cases h
theorem u8_wf {a : Int} (h : (Lit.int .u8 a).wf = true) : 0 ≤ a ∧ a ≤ 255 := by
  simp [Lit.wf, IntKind.min, IntKind.max, IntKind.bits, IntKind.signed] at h
  omega

theorem own : ownKnob Yba.prog.godebug = none := by kernel_rfl
theorem laidOut : laidOutB Yba.prog = true := by kernel_rfl

/-- WHAT THE WALK IS TOLD OF A SLICE OF INTEGERS THAT CAME IN: it is nil; or it leads to a row of 'cap' cells, the numbers 'zs' (the first 'len' are its elements, the rest its spare room), each fitting its kind. -/
def IsRow (k : IntKind) (w : World) (a : Option Addr) (len cap : Nat) (zs : List Int) : Prop :=
  (a = none ∧ len = 0 ∧ cap = 0 ∧ zs = []) ∨
  ∃ x, a = some x ∧ len ≤ cap ∧ cap ≤ maxLen ∧ zs.length = cap ∧ (∀ i, i < zs.length → w.cell? (x.add i) = some (.int k (zs.getD i 0))) ∧ ∀ n ∈ zs, (Lit.int k n).wf = true

/-! ### STEP 1: THE WALK: the Go text returns true, AND WRITES NOTHING THAT WAS THERE: 'Below w.heap.size w w'' (Derived/Below.lean: '.refl', '.alloc', '.drew', '.setCell' at a new block, '.trans'). Open each 'IsRow' by 'rcases' AHEAD of 'go_enter'; part every test ahead of the walk. -/
theorem walk (a0 : Option Addr) (len0 cap0 : Nat) (z0 : List Int) (a1 : Bool) (a2 : Int) (a3 : Int) (w : World) (w0 : IsRow .u8 w a0 len0 cap0 z0) (w2 : (Lit.int .u16 a2).wf = true) (w3 : (Lit.int .u16 a3).wf = true) :
    Calls Yba.prog 4 #[.slice a0 len0 cap0, .bool a1, .int .u16 a2, .int .u16 a3] w fun e w' => e = .returned (.bool true) ∧ Below w.heap.size w w' := by
  have b2 := u16_wf w2
  have b3 := u16_wf w3
  have hk : ((if len0 ≤ 8 then len0 else 8) = len0 ∧ len0 ≤ 8) ∨ ((if len0 ≤ 8 then len0 else 8) = 8 ∧ 8 < len0) := by
    by_cases h : len0 ≤ 8
    · rw [if_pos h]; exact Or.inl ⟨rfl, h⟩
    · rw [if_neg h]; exact Or.inr ⟨rfl, by omega⟩
  generalize hkk : (if len0 ≤ 8 then len0 else 8) = k at hk
  have hlm : len0 ≤ 9223372036854775807 := by
    rcases w0 with ⟨_, h, _⟩ | ⟨x, _, h1, h2, _⟩
    · omega
    · unfold maxLen at h2; omega
  refine free_walk a0 len0 cap0 k (fun j => (z0.getD j 0).toNat) a1 a2 a3 w (by omega) hk hlm (fun hk0 => ?_) b2.1 b2.2 b3.1 b3.2
  rcases w0 with ⟨_, h, _⟩ | ⟨x, hx, h1, h2, h3, h4, h5⟩
  · omega
  · have hin : ∀ i, i < k → 0 ≤ z0.getD i 0 ∧ z0.getD i 0 ≤ 255 := by
      intro i hi
      have hl : i < z0.length := by omega
      refine u8_wf (h5 _ ?_)
      rw [List.getD_eq_getElem?_getD, List.getElem?_eq_getElem hl]
      exact List.getElem_mem hl
    refine ⟨x, hx, ?_, fun i hi => ?_⟩
    · have := h4 0 (by omega)
      have hb : (x.add 0).block = x.block := by unfold Addr.add; split <;> rfl
      rw [← hb]
      exact cell_lt this
    · obtain ⟨q1, q2⟩ := hin i hi
      refine ⟨?_, by show (z0.getD i 0).toNat ≤ 255; omega⟩
      rw [h4 i (by omega)]
      show some (Value.int .u8 (z0.getD i 0)) = some (Value.int .u8 (((z0.getD i 0).toNat : Nat) : Int))
      rw [Int.toNat_of_nonneg q1]

/-! ### THE ROW's STEP: WRITTEN OUT: LEAVE IT -/
set_option maxRecDepth 100000 in
theorem lifted (os : Os) (started : os.Started) (H : Type) (enc : TypeId × Value → H) :
    ReturnsInHanded {} Yba.checked os 4 .any (Rows.lawS4480CFreeListSpec.pre6 enc Yba.prog Yba.f4 Rows.lawS4480CFreeListRow.domain false) (Rows.lawS4480CFreeListSpec.post enc Yba.prog Yba.f4 false true false false) := by
  refine returnsInHanded_of_change (C := Yba.checked) own started (by kernel_rfl) Yba.func4
    (ChangeSpec.witness6 (enc := enc) (C := Yba.checked) false ⟨#[], #[.slice none 0 0, .bool false, .int .u16 0, .int .u16 0], []⟩ 8 (by kernel_rfl) (by kernel_rfl) (by kernel_rfl) (by kernel_rfl)) ?_
  intro W base args ds gs before hval0 hW hcnd _
  have hval : ∀ (j : Nat) t v, Yba.f4.params[j]? = some t → args[j]? = some v → Value.okWide Yba.prog W .any base t v := hval0
  have hW' := hW
  obtain ⟨p, q, hA0, hV, rfl, hfz, hnd⟩ := hW
  have hA : DataW.TrodAll enc Yba.prog W 0 (fun _ => true) true Yba.f4.params.toList args.toList ds p := hA0
  rw [Yba.params4] at hA hval
  obtain ⟨v0, vs0, d0, ds0, p0, q0, hargs, rfl, rfl, h0, r0⟩ := trodAll_cons hA
  obtain ⟨v1, vs1, d1, ds1, p1, q1, rfl, rfl, rfl, h1, r1⟩ := trodAll_cons r0
  obtain ⟨v2, vs2, d2, ds2, p2, q2, rfl, rfl, rfl, h2, r2⟩ := trodAll_cons r1
  obtain ⟨v3, vs3, d3, ds3, p3, q3, rfl, rfl, rfl, h3, r3⟩ := trodAll_cons r2
  obtain ⟨rfl, rfl, rfl⟩ := trodAll_nil r3
  obtain rfl : args = #[v0, v1, v2, v3] := by cases args; simp_all
  obtain ⟨rfl, rfl⟩ := trodVars_none hV
  obtain ⟨a0, len0, cap0, rfl⟩ := okWide_slice Yba.underlying23 (hval 0 23 v0 rfl rfl)
  have k0 := h0
  have lt0 : ∀ x ∈ p0, x.block < W.heap.size := by obtain ⟨m, hm⟩ := k0; exact DataW.trod_lt m _ _ _ hm
  obtain ⟨z0, w0⟩ : ∃ zs, IsRow .u8 W a0 len0 cap0 zs := by
    obtain ⟨fuel, hf⟩ := h0
    rcases open_ints Yba.underlying23 Yba.underlying5 (by kernel_rfl) hf with ⟨hcs, _⟩ | ⟨x, l, c, zs, hcs, _, hl, hm, hz, _, hcell, hwz⟩
    · simp [Value.cells] at hcs
      obtain ⟨rfl, rfl, rfl⟩ := hcs
      exact ⟨[], .inl ⟨rfl, rfl, rfl, rfl⟩⟩
    · simp [Value.cells] at hcs
      obtain ⟨rfl, rfl, rfl⟩ := hcs
      exact ⟨zs, .inr ⟨_, rfl, hl, hm, by simpa using hz, hcell, hwz⟩⟩
  obtain ⟨a1, rfl, rfl, rfl⟩ := open_bool Yba.underlying4 (hval 1 4 v1 rfl rfl) h1
  obtain ⟨a2, rfl, rfl, rfl, w2⟩ := open_int Yba.underlying22 (hval 2 22 v2 rfl rfl) h2
  obtain ⟨a3, rfl, rfl, rfl, w3⟩ := open_int Yba.underlying22 (hval 3 22 v3 rfl rfl) h3
  clear hA0 hval0
  refine (walk a0 len0 cap0 z0 a1 a2 a3 W w0 w2 w3).mono fun e W' ⟨he, bel⟩ => ?_
  subst he
  exact ⟨_, rfl, _, _, _, [], _, [], hW', trodAll_mk1 (shut_bool Yba.underlying4 _), (trodAll_cons_mk (Below.trod laidOut (by kernel_rfl) (of_decide_eq_true (by kernel_rfl)) k0 bel lt0) (trodAll_cons_mk (shut_bool Yba.underlying4 _) (trodAll_cons_mk (shut_int Yba.underlying22 w2) (trodAll_cons_mk (shut_int Yba.underlying22 w3) trodAll_mk0)))), rfl, bel.frame _, fun h => by cases h⟩

theorem over : Rows.lawS4480CFreeListRow.holds Yba.pinned (OpenSpec.ofChange Rows.lawS4480CFreeListSpec) :=
  OpenClaim.holds_of_wide 4 Yba.f4 rfl rfl rfl rfl rfl rfl rfl ⟨rfl, rfl, rfl, rfl, rfl⟩ rfl rfl rfl rfl rfl (by kernel_rfl) Yba.func4 (by kernel_rfl)
    (of_decide_eq_true (by kernel_rfl)) (by unfold Func.isWrapper; first | (rw [if_pos (by decide +kernel)]; kernel_rfl) | (rw [if_neg (by decide +kernel)]; exact ⟨rfl, rfl⟩))
    (fun os started H enc _ => lifted os started H enc)

/-- ████ THE STATEMENT ████ -/
theorem proved : Rows.LawS4480CFreeListSaid := over
end Go.Proofs.Ybulkcnti.lawS4480CFreeList
