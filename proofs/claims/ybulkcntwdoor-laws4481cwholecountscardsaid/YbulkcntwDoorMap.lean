import Derived.Test.YbulkcntwDoorLeaf2
import Derived.ChangeMaps4
namespace Go.Proofs.YbulkcntwDoor
open Go.RowKit
open Go.ChangeMaps (setBlock)
set_option linter.unusedVariables false
set_option linter.unusedSimpArgs false

theorem noStood : Ybad.prog.stoodInHeld 26 = false := by kernel_rfl
theorem keq (a b c d : Nat) (w : World) : (Op.equal 26 (idv a b) (idv c d)).run Ybad.prog w = .ok (decide (a = c ∧ b = d)) w := by
  have h2 : ∀ e (x y : Nat), (Op.equalIn (e + 1) 22 (.int .u64 (x : Int)) (.int .u64 (y : Int))).run Ybad.prog w = .ok (decide (x = y)) w := fun e x y => by
    simp [Op.equalIn, run_underlying Ybad.underlying22]
    by_cases h : x = y
    · simp [h]
    · have : ¬ (x : Int) = (y : Int) := by omega
      simp [h, this]
  have h : ∀ e : Nat, (Op.equalIn (e + 2) 26 (idv a b) (idv c d)).run Ybad.prog w = .ok (decide (a = c ∧ b = d)) w := fun e => by
    rw [Op.equalIn]
    by_cases h1 : a = c
    · by_cases h3 : b = d
      · simp [run_underlying Ybad.underlying26, noStood, h2, go_sem, h1, h3]
      · simp [run_underlying Ybad.underlying26, noStood, h2, go_sem, h1, h3]
        omega
    · simp [run_underlying Ybad.underlying26, noStood, h2, go_sem, h1]
      omega
  simp [Op.equal, Op.maxDepth, h 9998]
theorem checkKey_id (w : World) (b : Bool) (h l : Nat) : (Instr.checkKey b 10000 26 (idv h l)).run Ybad.prog w = .ok () w := by
  have h2 : ∀ e (x : Nat), (Instr.checkKey b (e + 1) 22 (.int .u64 (x : Int))).run Ybad.prog w = .ok () w := fun e x => by
    unfold Instr.checkKey
    simp [run_underlying Ybad.underlying22, Result.andThen]
  have h3 : ∀ e : Nat, (Instr.checkKey b (e + 2) 26 (idv h l)).run Ybad.prog w = .ok () w := fun e => by
    rw [Instr.checkKey]
    simp [run_underlying Ybad.underlying26, h2, go_sem]
  exact h3 9998

abbrev kv (k : Nat × Nat) : Value := idv k.1 k.2
theorem findA (w : World) (y : Nat × Nat) : ∀ (es : List MapEntry) (L : List (Nat × Nat)) (i : Nat), es.map (·.key) = L.map kv → (∀ e ∈ es, e.val = .bool true) → (y ∉ L ∧ (Instr.findAsking 26 (kv y) es i).run Ybad.prog w = .ok none w) ∨ (y ∈ L ∧ ∃ j, L[j]? = some y ∧ (Instr.findAsking 26 (kv y) es i).run Ybad.prog w = .ok (some (i + j, .bool true)) w)
  | [], [], i, _, _ => .inl ⟨by simp, by simp [Instr.findAsking, Sem.run_pure]⟩
  | [], _ :: _, i, h, _ => by simp at h
  | e :: es, [], i, h, _ => by simp at h
  | e :: es, b :: L, i, h, hv => by
    simp only [List.map_cons, List.cons.injEq] at h
    unfold Instr.findAsking
    rw [h.1]
    by_cases hb : y = b
    · subst hb
      refine .inr ⟨by simp, 0, by simp, ?_⟩
      simp only [Sem.run_bind, keq, Result.andThen, hv e (by simp)]
      simp [Sem.run_pure]
    · have hk : ¬ (y.1 = b.1 ∧ y.2 = b.2) := fun ⟨h1, h2⟩ => hb (Prod.ext h1 h2)
      rcases findA w y es L (i + 1) h.2 (fun c hc => hv c (by simp [hc])) with ⟨h1, h2⟩ | ⟨h1, j, h2, h3⟩
      · refine .inl ⟨by simp [hb, h1], ?_⟩
        simp only [Sem.run_bind, keq, decide_eq_false hk, Result.andThen]
        exact h2
      · refine .inr ⟨by simp [h1], j + 1, by simpa using h2, ?_⟩
        simp only [Sem.run_bind, keq, decide_eq_false hk, Result.andThen]
        rw [show i + (j + 1) = i + 1 + j by omega]
        exact h3
theorem findKey_id (w : World) (y : Nat × Nat) (es : List MapEntry) : (Instr.findKey 26 (kv y) es).run Ybad.prog w = (Instr.findAsking 26 (kv y) es).run Ybad.prog w := by
  cases es with
  | nil => simp [Instr.findKey, run_underlying Ybad.underlying26, Instr.findNow, Instr.findAsking, Result.andThen]
  | cons e es => simp [Instr.findKey, run_underlying Ybad.underlying26, Instr.findNow, Instr.sameNow, Result.andThen]

/-- Block mb is a map that leads the identifiers of L to true. -/
def Mp (w : World) (mb : Nat) (L : List (Nat × Nat)) : Prop := ∃ es ck, w.heap[mb]? = some (.map es ck) ∧ es.toList.map (·.key) = L.map kv ∧ ∀ e ∈ es.toList, e.val = .bool true
theorem Mp.lt {w : World} {mb : Nat} {L : List (Nat × Nat)} (h : Mp w mb L) : mb < w.heap.size := by
  obtain ⟨es, ck, h1, _⟩ := h
  exact (Array.getElem?_eq_some_iff.1 h1).1
theorem Mp.of_heap {w w' : World} {mb : Nat} {L : List (Nat × Nat)} (h : Mp w mb L) (hh : w'.heap[mb]? = w.heap[mb]?) : Mp w' mb L := by
  obtain ⟨es, ck, h1, h2⟩ := h
  exact ⟨es, ck, hh.trans h1, h2⟩
theorem Mp.below {w w' : World} {mb : Nat} {L : List (Nat × Nat)} (h : Mp w mb L) (hb : Below w.heap.size w w') : Mp w' mb L := h.of_heap (hb.block _ h.lt)
theorem Mp.not_isC {w : World} {mb : Nat} {L : List (Nat × Nat)} (h : Mp w mb L) {b : Nat} (hb : isC w b) : ¬ mb = b := by
  rintro rfl
  obtain ⟨es, ck, h1, _⟩ := h
  obtain ⟨c, t, h2⟩ := hb
  rw [h1] at h2
  cases h2
theorem Mp.only {w w' : World} {mb b : Nat} {L : List (Nat × Nat)} (h : Mp w mb L) (ho : Only b w w') (hb : ¬ mb = b) : Mp w' mb L := h.of_heap (ho.block _ h.lt hb)
theorem Mp.new (w : World) : Mp (w.alloc (.map #[] 0)) w.heap.size [] := ⟨#[], 0, by show (w.heap.push _)[w.heap.size]? = _; simp, rfl, by simp⟩
theorem zero4 (w : World) : (zeroValue 4).run Ybad.prog w = .ok (.bool false) w := by kernel_rfl
theorem Mp.look {w : World} {mb : Nat} {L : List (Nat × Nat)} (h : Mp w mb L) (y : Nat × Nat) :
    (Instr.lookup 29 (.map (some mb)) (kv y) false).run Ybad.prog w = .ok (.bool (decide (y ∈ L))) w := by
  obtain ⟨es, ck, h1, h2, h3⟩ := h
  rcases findA w y es.toList L 0 h2 h3 with ⟨hm, hf⟩ | ⟨hm, j, hj, hf⟩
  · have hf : (Instr.findKey 26 (kv y) es.toList).run Ybad.prog w = .ok none w := by rw [findKey_id]; exact hf
    rw [decide_eq_false hm]
    simp [Instr.lookup, run_underlying Ybad.underlying29, getObj, Sem.run, h1, checkKey_id, hf, Result.andThen, zero4]
  · have hf : (Instr.findKey 26 (kv y) es.toList).run Ybad.prog w = .ok (some (0 + j, .bool true)) w := by rw [findKey_id]; exact hf
    rw [decide_eq_true hm]
    simp [Instr.lookup, run_underlying Ybad.underlying29, getObj, Sem.run, h1, checkKey_id, hf, Result.andThen]
theorem Mp.len {w : World} {mb : Nat} {L : List (Nat × Nat)} (h : Mp w mb L) (ty : TypeId) :
    (Builtin.len_ #[29] ty #[.map (some mb)]).run Ybad.prog w = .ok (.int .i64 (L.length : Int)) w := by
  obtain ⟨es, ck, h1, h2, h3⟩ := h
  have : es.size = L.length := by have := congrArg List.length h2; simpa using this
  simp [Builtin.len_, run_underlying Ybad.underlying29, getObj, Sem.run, h1, Result.andThen, goInt, this]
theorem Mp.update {w : World} {mb : Nat} {L : List (Nat × Nat)} (h : Mp w mb L) (y : Nat × Nat) :
    ∃ w' L', (Instr.mapUpdate 29 (.map (some mb)) (kv y) (.bool true)).run Ybad.prog w = .ok () w' ∧ Mp w' mb L' ∧ Only mb w w' ∧ (∀ z, z ∈ L' ↔ z ∈ L ∨ z = y) ∧ L'.length ≤ L.length + 1 := by
  obtain ⟨es, ck, h1, h2, h3⟩ := h
  have hlt : mb < w.heap.size := (Array.getElem?_eq_some_iff.1 h1).1
  have hO : ∀ o, Only mb w (setBlock w mb o) := fun o => ⟨rfl, rfl, rfl, by simp [setBlock], fun k hk hb => by unfold setBlock; rw [Array.getElem?_setIfInBounds_ne (fun e => hb e.symm)]⟩
  rcases findA w y es.toList L 0 h2 h3 with ⟨hm, hf⟩ | ⟨hm, j, hj, hf⟩
  · have hf : (Instr.findKey 26 (kv y) es.toList).run Ybad.prog w = .ok none w := by rw [findKey_id]; exact hf
    refine ⟨setBlock w mb (.map (es.push { key := kv y, val := .bool true, born := ck }) (ck + 1)), L ++ [y], ?_, ⟨es.push { key := kv y, val := .bool true, born := ck }, ck + 1, ?_, ?_, ?_⟩, hO _, fun z => by simp, by simp⟩
    · simp [Instr.mapUpdate, run_underlying Ybad.underlying29, getObj, setObj, Sem.run, h1, checkKey_id, hf, Result.andThen, setBlock]
    · unfold setBlock
      simp [hlt]
    · simp [h2]
    · intro e he
      simp at he
      rcases he with he | he
      · exact h3 e (by simpa using he)
      · rw [he]
  · have hf : (Instr.findKey 26 (kv y) es.toList).run Ybad.prog w = .ok (some (0 + j, .bool true)) w := by rw [findKey_id]; exact hf
    have hjl : j < es.size := by have := congrArg List.length h2; have := (List.getElem?_eq_some_iff.1 hj).1; simp at *; omega
    have hkey : (es[j]?.map (·.key)) = some (kv y) := by
      have e := congrArg (fun l => l[j]?) h2
      simp only [List.getElem?_map, hj] at e
      simpa using e
    have hmod : (es.modify (0 + j) fun e => { e with key := kv y, val := .bool true }) = es := by
      apply Array.ext_getElem?
      intro k
      rw [Array.getElem?_modify]
      by_cases hk : 0 + j = k
      · rw [if_pos hk]
        have hk' : j = k := by omega
        subst hk'
        rw [Array.getElem?_eq_getElem hjl] at hkey ⊢
        simp only [Option.map_some, Option.some.injEq] at hkey ⊢
        have hv := h3 es[j] (by simp)
        rw [← hkey, ← hv]
      · rw [if_neg hk]
    refine ⟨setBlock w mb (.map es ck), L, ?_, ⟨es, ck, by unfold setBlock; simp [hlt], h2, h3⟩, hO _, fun z => ⟨.inl, fun h => h.elim id (fun e => e ▸ hm)⟩, by omega⟩
    rw [← hmod]
    have hf' : (Instr.findKey 26 (kv y) es.toList).run Ybad.prog w = .ok (some (0 + j, .bool true)) w := hf
    simp [Instr.mapUpdate, run_underlying Ybad.underlying29, getObj, setObj, Sem.run, h1, checkKey_id, hf, Result.andThen, setBlock, hkey, Instr.keyThatStays, Instr.sameBits]
end Go.Proofs.YbulkcntwDoor
