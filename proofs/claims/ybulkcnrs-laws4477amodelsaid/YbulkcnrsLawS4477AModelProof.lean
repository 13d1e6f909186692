import Derived.Test.YbulkcnrsMain
import Derived.ProofKit
import Derived.OpenShut
import Derived.ShutString
import Derived.Deep.Slices
namespace Go.Proofs.Ybulkcnrs.lawS4477AModel
open Go.ChangeShapes Go.WideShapes Go.ChangeAt Go.RowKit Go.Deep
set_option linter.unusedVariables false
set_option linter.unusedSimpArgs false

theorem own : ownKnob Yba.prog.godebug = none := by kernel_rfl
theorem laidOut : laidOutB Yba.prog = true := by kernel_rfl
theorem cells28 : Yba.prog.cellsOf 28 = 4 := by kernel_rfl
theorem cells5 : Yba.prog.cellsOf 5 = 1 := by kernel_rfl
theorem cells9 : Yba.prog.cellsOf 9 = 1 := by kernel_rfl
theorem read23 : Yba.prog.readableRec 23 = true := by kernel_rfl
theorem row23 : 23 < Yba.prog.types.size := by decide +kernel

theorem i8_bounds {a : Int} (h : (Lit.int .i8 a).wf = true) : -128 ≤ a ∧ a ≤ 127 := by
  have : IntKind.i8.min ≤ a ∧ a ≤ IntKind.i8.max := by simpa [Lit.wf] using h
  have h1 : IntKind.i8.min = -128 := by decide
  have h2 : IntKind.i8.max = 127 := by decide
  rw [h1, h2] at this
  exact this
theorem u8_bounds {a : Int} (h : (Lit.int .u8 a).wf = true) : 0 ≤ a ∧ a ≤ 255 := by
  have : IntKind.u8.min ≤ a ∧ a ≤ IntKind.u8.max := by simpa [Lit.wf] using h
  have h1 : IntKind.u8.min = 0 := by decide
  have h2 : IntKind.u8.max = 255 := by decide
  rw [h1, h2] at this
  exact this

/-- What a slice of ops is, as the walk wants it. -/
theorem open_ops {H : Type} {enc : TypeId × Value → H} {W : World} {v : Value} {d : DataW H} {ps : List MemPlace} (hv : ∃ a len cap, v = .slice a len cap) (h : DataW.Trod enc Yba.prog W 0 (fun _ => true) true 23 v d ps) :
    ∃ (av : Option Addr) (n cap : Nat), v = .slice av n cap ∧ n ≤ maxLen ∧ (0 < n → ∃ b o, av = some ⟨b, o, none⟩ ∧ b < W.heap.size ∧ ∀ i, i < n → ∃ (x0 x1 x2 : Int) (s : ByteArray), W.cell? ⟨b, o + i * 4, none⟩ = some (.int .u8 x0) ∧ W.cell? ⟨b, o + i * 4 + 1, none⟩ = some (.int .u8 x1) ∧
      W.cell? ⟨b, o + i * 4 + 2, none⟩ = some (.int .u8 x2) ∧ W.cell? ⟨b, o + i * 4 + 3, none⟩ = some (.string s) ∧ (0 ≤ x0 ∧ x0 ≤ 255) ∧ (0 ≤ x1 ∧ x1 ≤ 255) ∧ (0 ≤ x2 ∧ x2 ≤ 255) ∧ s.size ≤ maxLen) := by
  obtain ⟨va, vl, vc, rfl⟩ := hv
  obtain ⟨fuel, h⟩ := h
  rcases open_slice Yba.underlying23 h with ⟨hc, _⟩ | ⟨a, len, cap, m, n, D, Pl, hc, hb, hl, hm, hmm, hx, hi⟩
  · have hv : Value.slice va vl vc = .slice none 0 0 := by simpa [Value.cells] using hc
    exact ⟨none, 0, 0, hv, Nat.zero_le _, fun h0 => absurd h0 (by omega)⟩
  · have hv : Value.slice va vl vc = .slice (some a) len cap := by simpa [Value.cells] using hc
    refine ⟨some a, len, cap, hv, Nat.le_trans hl hm, fun h0 => ?_⟩
    have hmm' : m = cap := by simpa using hmm
    rw [cells28] at hi
    have each : ∀ i, i < len → ∃ (x0 x1 x2 : Int) (s : ByteArray), W.cell? (a.add (i * 4)) = some (.int .u8 x0) ∧ W.cell? ((a.add (i * 4)).add 1) = some (.int .u8 x1) ∧ W.cell? ((a.add (i * 4)).add 2) = some (.int .u8 x2) ∧ W.cell? ((a.add (i * 4)).add 3) = some (.string s) ∧
        (0 ≤ x0 ∧ x0 ≤ 255) ∧ (0 ≤ x1 ∧ x1 ≤ 255) ∧ (0 ≤ x2 ∧ x2 ≤ 255) ∧ s.size ≤ maxLen := by
      intro i hil
      obtain ⟨cs', h1, h2⟩ := hi i (by omega)
      obtain ⟨_, hlen, hcell⟩ := World.cells?_some h1
      obtain ⟨xs, k, _, _, _, hxl, hf⟩ := DataW.trod_struct Yba.underlying28 h2
      match xs, hxl, cs', hlen with
      | [y0, y1, y2, y3], _, [v0, v1, v2, v3], _ =>
        have g0 := hf 0 _ rfl
        have g1 := hf 1 _ rfl
        have g2 := hf 2 _ rfl
        have g3 := hf 3 _ rfl
        simp [cells5, cells9] at g0 g1 g2 g3
        obtain ⟨x0, k0, _, b0⟩ := DataW.trod_int Yba.underlying5 g0
        obtain ⟨x1, k1, _, b1⟩ := DataW.trod_int Yba.underlying5 g1
        obtain ⟨x2, k2, _, b2⟩ := DataW.trod_int Yba.underlying5 g2
        obtain ⟨s, k3, _, b3⟩ := DataW.trod_string Yba.underlying9 g3
        simp only [List.cons.injEq, and_true] at k0 k1 k2 k3
        subst k0; subst k1; subst k2; subst k3
        refine ⟨x0, x1, x2, s, ?_, ?_, ?_, ?_, u8_bounds b0, u8_bounds b1, u8_bounds b2, b3⟩
        · simpa [Addr.add] using hcell 0 (by omega)
        · simpa using hcell 1 (by omega)
        · simpa using hcell 2 (by omega)
        · simpa using hcell 3 (by omega)
    obtain ⟨b, off, spot⟩ := a
    obtain ⟨x0, x1, x2, s, g0, _⟩ := each 0 h0
    have hspot : spot = none := by simpa [Addr.add] using World.cell?_spot g0
    subst hspot
    refine ⟨b, off, rfl, World.block_lt_of_cell? W ⟨b, off, none⟩ (by simpa [Addr.add] using g0), fun i hil => ?_⟩
    obtain ⟨x0, x1, x2, s, g0, g1, g2, g3, r⟩ := each i hil
    simp only [addr_add] at g0 g1 g2 g3
    exact ⟨x0, x1, x2, s, g0, g1, g2, g3, r⟩

theorem walk {W : World} {a0 : Int} {av : Option Addr} {n cap : Nat} (w0 : (Lit.int .i8 a0).wf = true) (hn : n ≤ maxLen)
    (hav : 0 < n → ∃ b o, av = some ⟨b, o, none⟩ ∧ b < W.heap.size ∧ ∀ i, i < n → ∃ (x0 x1 x2 : Int) (s : ByteArray), W.cell? ⟨b, o + i * 4, none⟩ = some (.int .u8 x0) ∧ W.cell? ⟨b, o + i * 4 + 1, none⟩ = some (.int .u8 x1) ∧
      W.cell? ⟨b, o + i * 4 + 2, none⟩ = some (.int .u8 x2) ∧ W.cell? ⟨b, o + i * 4 + 3, none⟩ = some (.string s) ∧ (0 ≤ x0 ∧ x0 ≤ 255) ∧ (0 ≤ x1 ∧ x1 ≤ 255) ∧ (0 ≤ x2 ∧ x2 ≤ 255) ∧ s.size ≤ maxLen) :
    Calls Yba.prog 3 #[.int .i8 a0, .slice av n cap] W fun e w' => e = .returned (.bool true) ∧ Below W.heap.size W w' := by
  by_cases h : 300 < n
  · exact walk_long a0 av n cap W h hn
  · exact walk_T a0 av n cap W (i8_bounds w0) h hav

set_option maxRecDepth 100000 in
theorem lifted (os : Os) (started : os.Started) (H : Type) (enc : TypeId × Value → H) :
    ReturnsInHanded {} Yba.checked os 3 .any (Rows.lawS4477AModelSpec.pre6 enc Yba.prog Yba.f3 Rows.lawS4477AModelRow.domain false) (Rows.lawS4477AModelSpec.post enc Yba.prog Yba.f3 false true false false) := by
  refine returnsInHanded_of_change (C := Yba.checked) own started (by kernel_rfl) Yba.func3
    (ChangeSpec.witness6 (enc := enc) (C := Yba.checked) false ⟨#[], #[.int .i8 0, .slice none 0 0], []⟩ 8 (by kernel_rfl) (by kernel_rfl) (by kernel_rfl) (by kernel_rfl)) ?_
  intro W base args ds gs before hval0 hW hcnd _
  have hval : ∀ (j : Nat) t v, Yba.f3.params[j]? = some t → args[j]? = some v → Value.okWide Yba.prog W .any base t v := hval0
  have hW' := hW
  obtain ⟨p, q, hA0, hV, rfl, hfz, hnd⟩ := hW
  have hA : DataW.TrodAll enc Yba.prog W 0 (fun _ => true) true Yba.f3.params.toList args.toList ds p := hA0
  rw [Yba.params3] at hA hval
  obtain ⟨v0, vs0, d0, ds0, p0, q0, hargs, rfl, rfl, h0, r0⟩ := trodAll_cons hA
  obtain ⟨v1, vs1, d1, ds1, p1, q1, rfl, rfl, rfl, h1, r1⟩ := trodAll_cons r0
  obtain ⟨rfl, rfl, rfl⟩ := trodAll_nil r1
  obtain rfl : args = #[v0, v1] := by cases args; simp_all
  obtain ⟨rfl, rfl⟩ := trodVars_none hV
  obtain ⟨a0, rfl, rfl, rfl, w0⟩ := open_int Yba.underlying22 (hval 0 22 v0 rfl rfl) h0
  obtain ⟨av, n, cap, rfl, hn, hav⟩ := open_ops (okWide_slice Yba.underlying23 (hval 1 23 v1 rfl rfl)) h1
  clear hA0 hval0
  simp only [List.append_nil, List.nil_append] at hW'
  have hlt : ∀ x ∈ p1, x.block < W.heap.size := fun x hx => hW'.lt x hx
  refine (walk w0 hn hav).mono fun e W' ⟨he, hg⟩ => ?_
  subst he
  refine ⟨_, rfl, _, _, _, [], _, [], hW', (trodAll_cons_mk (shut_bool Yba.underlying4 _) trodAll_mk0), (trodAll_cons_mk (shut_int Yba.underlying22 w0) (trodAll_cons_mk (hg.trod laidOut read23 row23 h1 hlt) trodAll_mk0)), rfl, hg.frame _, fun h => by cases h⟩

theorem over : Rows.lawS4477AModelRow.holds Yba.pinned (OpenSpec.ofChange Rows.lawS4477AModelSpec) :=
  OpenClaim.holds_of_wide 3 Yba.f3 rfl rfl rfl rfl rfl rfl rfl ⟨rfl, rfl, rfl, rfl, rfl⟩ rfl rfl rfl rfl rfl (by kernel_rfl) Yba.func3 (by kernel_rfl)
    (of_decide_eq_true (by kernel_rfl)) (by unfold Func.isWrapper; first | (rw [if_pos (by decide +kernel)]; kernel_rfl) | (rw [if_neg (by decide +kernel)]; exact ⟨rfl, rfl⟩))
    (fun os started H enc _ => lifted os started H enc)

/-- ████ THE STATEMENT ████ -/
theorem proved : Rows.LawS4477AModelSaid :=
  over
end Go.Proofs.Ybulkcnrs.lawS4477AModel
