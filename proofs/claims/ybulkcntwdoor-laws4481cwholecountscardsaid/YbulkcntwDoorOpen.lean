import Derived.Test.YbulkcntwDoorDrive
import Derived.Deep.Slices
import Derived.ChangeSame
namespace Go.Proofs.YbulkcntwDoor
open Go.ChangeShapes Go.WideShapes Go.Deep
set_option linter.unusedVariables false
set_option linter.unusedSimpArgs false

theorem u64_wf {a : Int} (h : (Lit.int .u64 a).wf = true) : 0 ≤ a ∧ a < 18446744073709551616 := by
  simp [Lit.wf, IntKind.min, IntKind.max, IntKind.bits, IntKind.signed] at h
  omega
theorem u8_wf {a : Int} (h : (Lit.int .u8 a).wf = true) : 0 ≤ a ∧ a ≤ 255 := by
  simp [Lit.wf, IntKind.min, IntKind.max, IntKind.bits, IntKind.signed] at h
  omega
theorem cells22 : Ybad.prog.cellsOf 22 = 1 := by kernel_rfl
theorem cells4 : Ybad.prog.cellsOf 4 = 1 := by kernel_rfl
theorem cells5 : Ybad.prog.cellsOf 5 = 1 := by kernel_rfl
theorem cells28 : Ybad.prog.cellsOf 28 = 3 := by kernel_rfl
theorem cells41 : Ybad.prog.cellsOf 41 = 3 := by kernel_rfl
theorem list3 {α : Type} : ∀ {l : List α}, l.length = 3 → ∃ a b c, l = [a, b, c]
  | [a, b, c], _ => ⟨a, b, c, rfl⟩
theorem spot_none {w : World} {a : Addr} {v : Value} (h : w.cell? a = some v) : a.spot = none := by
  unfold World.cell? at h
  split at h
  · split at h
    · cases h
    · rename_i hs; simpa using hs
  · cases h
section
variable {H : Type} {enc : TypeId × Value → H} {w : World} {held : Bool}
/-- An element of a slice of peers. -/
theorem peer_cells {a : Addr} {i n : Nat} {cs : List Value} {x : DataW H × List MemPlace} (h1 : w.cells? 0 (a.add (i * 3)) 3 = some cs) (h2 : DataW.trod enc Ybad.prog w 0 (fun _ => true) held n 28 cs = some x) :
    ∃ q : Pr, (q.hi < M ∧ q.lo < M) ∧ w.cell? (a.add (i * 3)) = some (.int .u64 (q.hi : Int)) ∧ w.cell? (a.add (i * 3 + 1)) = some (.int .u64 (q.lo : Int)) ∧ w.cell? (a.add (i * 3 + 2)) = some (.bool q.st) := by
  obtain ⟨_, hlen, hcell⟩ := World.cells?_some h1
  obtain ⟨xs, k, hk, hxy, _, hxl, hf⟩ := DataW.trod_struct Ybad.underlying28 h2
  obtain ⟨v0, v1, v2, rfl⟩ := list3 hlen
  have g0 := hf 0 _ rfl
  have g1 := hf 1 _ rfl
  have g2 := hf 2 _ rfl
  simp [cells22, cells4] at g0 g1 g2
  obtain ⟨y0, y1, y2, rfl⟩ := list3 (hxl.trans rfl)
  simp at g0 g1 g2
  obtain ⟨z0, e0, _, wf0⟩ := DataW.trod_int Ybad.underlying22 g0
  obtain ⟨z1, e1, _, wf1⟩ := DataW.trod_int Ybad.underlying22 g1
  obtain ⟨b2, e2, _⟩ := DataW.trod_bool Ybad.underlying4 g2
  simp at e0 e1 e2
  have c0 := hcell 0 (by omega)
  have c1 := hcell 1 (by omega)
  have c2 := hcell 2 (by omega)
  rw [add_add] at c0 c1 c2
  have w0 := u64_wf wf0
  have w1 := u64_wf wf1
  refine ⟨⟨z0.toNat, z1.toNat, b2⟩, ⟨by show z0.toNat < M; have := hM; omega, by show z1.toNat < M; have := hM; omega⟩, ?_, ?_, ?_⟩
  · rw [show ((z0.toNat : Nat) : Int) = z0 by omega, ← e0]; simpa using c0
  · rw [show ((z1.toNat : Nat) : Int) = z1 by omega, ← e1]; simpa using c1
  · rw [← e2]; simpa using c2
theorem branch_cells {a : Addr} {i n : Nat} {cs : List Value} {x : DataW H × List MemPlace} (h1 : w.cells? 0 (a.add (i * 3)) 3 = some cs) (h2 : DataW.trod enc Ybad.prog w 0 (fun _ => true) held n 41 cs = some x) :
    ∃ q : Pb, (q.hi < M ∧ q.lo < M ∧ q.d ≤ 255) ∧ w.cell? (a.add (i * 3)) = some (.int .u64 (q.hi : Int)) ∧ w.cell? (a.add (i * 3 + 1)) = some (.int .u64 (q.lo : Int)) ∧ w.cell? (a.add (i * 3 + 2)) = some (.int .u8 (q.d : Int)) := by
  obtain ⟨_, hlen, hcell⟩ := World.cells?_some h1
  obtain ⟨xs, k, hk, hxy, _, hxl, hf⟩ := DataW.trod_struct Ybad.underlying41 h2
  obtain ⟨v0, v1, v2, rfl⟩ := list3 hlen
  have g0 := hf 0 _ rfl
  have g1 := hf 1 _ rfl
  have g2 := hf 2 _ rfl
  simp [cells22, cells5] at g0 g1 g2
  obtain ⟨y0, y1, y2, rfl⟩ := list3 (hxl.trans rfl)
  simp at g0 g1 g2
  obtain ⟨z0, e0, _, wf0⟩ := DataW.trod_int Ybad.underlying22 g0
  obtain ⟨z1, e1, _, wf1⟩ := DataW.trod_int Ybad.underlying22 g1
  obtain ⟨z2, e2, _, wf2⟩ := DataW.trod_int Ybad.underlying5 g2
  simp at e0 e1 e2
  have c0 := hcell 0 (by omega)
  have c1 := hcell 1 (by omega)
  have c2 := hcell 2 (by omega)
  rw [add_add] at c0 c1 c2
  have w0 := u64_wf wf0
  have w1 := u64_wf wf1
  have w2 := u8_wf wf2
  refine ⟨⟨z0.toNat, z1.toNat, z2.toNat⟩, ⟨by show z0.toNat < M; have := hM; omega, by show z1.toNat < M; have := hM; omega, by show z2.toNat ≤ 255; omega⟩, ?_, ?_, ?_⟩
  · rw [show ((z0.toNat : Nat) : Int) = z0 by omega, ← e0]; simpa using c0
  · rw [show ((z1.toNat : Nat) : Int) = z1 by omega, ← e1]; simpa using c1
  · rw [show ((z2.toNat : Nat) : Int) = z2 by omega, ← e2]; simpa using c2

theorem open_peers {p : Option Addr} {n cap : Nat} {d : DataW H} {ps : List MemPlace} (h : DataW.Trod enc Ybad.prog w 0 (fun _ => true) held 23 (.slice p n cap) d ps) :
    ∃ l : List Pr, n = l.length ∧ (∀ q ∈ l, q.hi < M ∧ q.lo < M) ∧ PrAt w p l ∧ (n ≤ cap ∧ cap ≤ 9223372036854775807) ∧ (p = none → n = 0 ∧ cap = 0) := by
  obtain ⟨fuel, hf⟩ := h
  rcases open_slice Ybad.underlying23 hf with ⟨hcs, _⟩ | ⟨a, len, c, m, k, D, Pl, hcs, _, hl, hm, hmm, _, hx⟩
  · simp [Value.cells] at hcs
    obtain ⟨rfl, rfl, rfl⟩ := hcs
    exact ⟨[], rfl, by simp, fun h => absurd rfl h, ⟨by omega, by omega⟩, fun _ => ⟨rfl, rfl⟩⟩
  · simp [Value.cells] at hcs
    obtain ⟨rfl, rfl, rfl⟩ := hcs
    have hnm : n ≤ m := by rw [hmm]; split <;> omega
    obtain ⟨q, hq⟩ := choose_lt (α := Pr) (n := n) (p := fun i q => (q.hi < M ∧ q.lo < M) ∧ w.cell? (a.add (i * 3)) = some (.int .u64 (q.hi : Int)) ∧ w.cell? (a.add (i * 3 + 1)) = some (.int .u64 (q.lo : Int)) ∧ w.cell? (a.add (i * 3 + 2)) = some (.bool q.st)) (fun i hi => by
      obtain ⟨cs', h1, h2⟩ := hx i (by omega)
      rw [cells28] at h1
      exact peer_cells h1 h2)
    refine ⟨(List.range n).map q, by simp, fun x hx => ?_, fun hne => ?_, ⟨hl, hm⟩, fun h => by cases h⟩
    · obtain ⟨i, hi, rfl⟩ := List.mem_map.1 hx
      exact (hq i (List.mem_range.1 hi)).1
    · have hn0 : 0 < n := by
        cases n with
        | zero => exact absurd rfl hne
        | succ n => omega
      have hs := spot_none (hq 0 hn0).2.1
      have hs' : a.spot = none := by simpa [Addr.add] using hs
      obtain ⟨b, off, sp⟩ := a
      simp only at hs'
      subst hs'
      have hadd : ∀ j, (⟨b, off, none⟩ : Addr).add j = ⟨b, off + j, none⟩ := fun j => by unfold Addr.add; split <;> simp_all
      refine ⟨b, off, rfl, fun i hi => ?_⟩
      have hi' : i < n := by simpa using hi
      have h := (hq i hi').2
      rw [hadd, hadd, hadd] at h
      rw [getElem!_pos ((List.range n).map q) i hi]
      simp only [List.getElem_map, List.getElem_range]
      exact h
theorem open_branches {p : Option Addr} {n cap : Nat} {d : DataW H} {ps : List MemPlace} (h : DataW.Trod enc Ybad.prog w 0 (fun _ => true) held 24 (.slice p n cap) d ps) :
    ∃ l : List Pb, n = l.length ∧ (∀ q ∈ l, q.hi < M ∧ q.lo < M ∧ q.d ≤ 255) ∧ PbAt w p l ∧ (n ≤ cap ∧ cap ≤ 9223372036854775807) := by
  obtain ⟨fuel, hf⟩ := h
  rcases open_slice Ybad.underlying24 hf with ⟨hcs, _⟩ | ⟨a, len, c, m, k, D, Pl, hcs, _, hl, hm, hmm, _, hx⟩
  · simp [Value.cells] at hcs
    obtain ⟨rfl, rfl, rfl⟩ := hcs
    exact ⟨[], rfl, by simp, fun h => absurd rfl h, ⟨by omega, by omega⟩⟩
  · simp [Value.cells] at hcs
    obtain ⟨rfl, rfl, rfl⟩ := hcs
    have hnm : n ≤ m := by rw [hmm]; split <;> omega
    obtain ⟨q, hq⟩ := choose_lt (α := Pb) (n := n) (p := fun i q => (q.hi < M ∧ q.lo < M ∧ q.d ≤ 255) ∧ w.cell? (a.add (i * 3)) = some (.int .u64 (q.hi : Int)) ∧ w.cell? (a.add (i * 3 + 1)) = some (.int .u64 (q.lo : Int)) ∧ w.cell? (a.add (i * 3 + 2)) = some (.int .u8 (q.d : Int))) (fun i hi => by
      obtain ⟨cs', h1, h2⟩ := hx i (by omega)
      rw [cells41] at h1
      exact branch_cells h1 h2)
    refine ⟨(List.range n).map q, by simp, fun x hx => ?_, fun hne => ?_, ⟨hl, hm⟩⟩
    · obtain ⟨i, hi, rfl⟩ := List.mem_map.1 hx
      exact (hq i (List.mem_range.1 hi)).1
    · have hn0 : 0 < n := by
        cases n with
        | zero => exact absurd rfl hne
        | succ n => omega
      have hs := spot_none (hq 0 hn0).2.1
      have hs' : a.spot = none := by simpa [Addr.add] using hs
      obtain ⟨b, off, sp⟩ := a
      simp only at hs'
      subst hs'
      have hadd : ∀ j, (⟨b, off, none⟩ : Addr).add j = ⟨b, off + j, none⟩ := fun j => by unfold Addr.add; split <;> simp_all
      refine ⟨b, off, rfl, fun i hi => ?_⟩
      have hi' : i < n := by simpa using hi
      have h := (hq i hi').2
      rw [hadd, hadd, hadd] at h
      rw [getElem!_pos ((List.range n).map q) i hi]
      simp only [List.getElem_map, List.getElem_range]
      exact h
end
end Go.Proofs.YbulkcntwDoor
