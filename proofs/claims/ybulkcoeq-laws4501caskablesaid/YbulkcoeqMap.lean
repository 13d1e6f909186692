import Derived.Test.YbulkcoeqFrame
import Derived.LaidEqlPtr
import Derived.ChangeMaps4
namespace Go.Proofs.Ybulkcoeq
open Go.RowKit
open Go.ChangeMaps (setBlock)
set_option linter.unusedVariables false
set_option linter.unusedSimpArgs false

theorem info44 : (Yba.prog.info? 44).map (·.size) = some 15 := by kernel_rfl
theorem peq_same (w : World) (a : Nat) : (Op.equal 24 (.pointer (some ⟨a, 0, none⟩)) (.pointer (some ⟨a, 0, none⟩))).run Yba.prog w = .ok true w := by
  obtain ⟨j, hj, hs⟩ := Option.map_eq_some_iff.1 info44
  have h : ∀ d : Nat, (Op.equalIn (d + 1) 24 (.pointer (some ⟨a, 0, none⟩)) (.pointer (some ⟨a, 0, none⟩))).run Yba.prog w = .ok true w := fun d => by
    simp [Op.equalIn, run_underlying Yba.underlying24, sizeOf, typeInfo, hj, run_sameAddr_same]
  simp [Op.equal, Op.maxDepth, h 9999]
theorem peq_other (w : World) (a b : Nat) (hne : a ≠ b) (ha : isC w a) (hb : isC w b) : (Op.equal 24 (.pointer (some ⟨a, 0, none⟩)) (.pointer (some ⟨b, 0, none⟩))).run Yba.prog w = .ok false w := by
  obtain ⟨j, hj, hs⟩ := Option.map_eq_some_iff.1 info44
  obtain ⟨ca, ta, ha⟩ := ha
  obtain ⟨cb, tb, hb⟩ := hb
  have hsz : j.size ≠ 0 := by rw [hs]; decide
  have h : ∀ d : Nat, (Op.equalIn (d + 1) 24 (.pointer (some ⟨a, 0, none⟩)) (.pointer (some ⟨b, 0, none⟩))).run Yba.prog w = .ok false w := fun d => by
    simp [Op.equalIn, run_underlying Yba.underlying24, sizeOf, typeInfo, hj, hsz, run_sameAddr_other w (a := ⟨a, 0, none⟩) (b := ⟨b, 0, none⟩) (by simp [hne]) ha hb]
  simp [Op.equal, Op.maxDepth, h 9999]

abbrev pv (b : Nat) : Value := .pointer (some ⟨b, 0, none⟩)

theorem findA_none (w : World) (y : Nat) (hy : isC w y) : ∀ (es : List MapEntry) (L : List Nat) (i : Nat), es.map (·.key) = L.map pv → (∀ b ∈ L, isC w b ∧ b ≠ y) → (Instr.findAsking 24 (pv y) es i).run Yba.prog w = .ok none w
  | [], L, i, _, _ => by simp [Instr.findAsking, Sem.run_pure]
  | e :: es, [], i, h, _ => by simp at h
  | e :: es, b :: L, i, h, hL => by
    simp only [List.map_cons, List.cons.injEq] at h
    have h1 := hL b (by simp)
    unfold Instr.findAsking
    rw [h.1]
    simp only [Sem.run_bind, peq_other w y b (fun e => h1.2 e.symm) hy h1.1, Result.andThen]
    exact findA_none w y hy es L (i + 1) h.2 fun c hc => hL c (by simp [hc])
theorem findA_some (w : World) (y : Nat) (hy : isC w y) : ∀ (es : List MapEntry) (L : List Nat) (i : Nat), es.map (·.key) = L.map pv → (∀ b ∈ L, isC w b) → (∀ e ∈ es, e.val = .bool true) → y ∈ L → ∃ j, (Instr.findAsking 24 (pv y) es i).run Yba.prog w = .ok (some (j, .bool true)) w
  | [], [], i, _, _, _, hm => by simp at hm
  | [], _ :: _, i, h, _, _, _ => by simp at h
  | e :: es, [], i, h, _, _, _ => by simp at h
  | e :: es, b :: L, i, h, hL, hv, hm => by
    simp only [List.map_cons, List.cons.injEq] at h
    unfold Instr.findAsking
    rw [h.1]
    by_cases hb : y = b
    · subst hb
      refine ⟨i, ?_⟩
      simp only [Sem.run_bind, peq_same w y, Result.andThen, hv e (by simp)]
      simp [Sem.run_pure]
    · obtain ⟨j, hj⟩ := findA_some w y hy es L (i + 1) h.2 (fun c hc => hL c (by simp [hc])) (fun c hc => hv c (by simp [hc])) (by simpa [hb] using hm)
      refine ⟨j, ?_⟩
      simp only [Sem.run_bind, peq_other w y b hb hy (hL b (by simp)), Result.andThen]
      exact hj
theorem findKey_ptr (w : World) (y : Nat) (es : List MapEntry) : (Instr.findKey 24 (pv y) es).run Yba.prog w = (Instr.findAsking 24 (pv y) es).run Yba.prog w := by
  cases es with
  | nil => simp [Instr.findKey, run_underlying Yba.underlying24, Instr.findNow, Instr.findAsking, Result.andThen]
  | cons e es =>
    have : Instr.findNow (.pointer 44) (pv y) (e :: es) 0 = none := by
      unfold Instr.findNow
      cases hk : e.key <;> simp [Instr.sameNow]
    simp [Instr.findKey, run_underlying Yba.underlying24, this, Result.andThen]
theorem checkKey_ptr (w : World) (b : Bool) (y : Nat) : (Instr.checkKey b 10000 24 (pv y)).run Yba.prog w = .ok () w := by
  unfold Instr.checkKey
  simp [run_underlying Yba.underlying24, Result.andThen]

/-- Block mb is a map that leads the senders of L to true. -/
def Mp (w : World) (mb : Nat) (L : List Nat) : Prop := ∃ es ck, w.heap[mb]? = some (.map es ck) ∧ es.toList.map (·.key) = L.map pv ∧ ∀ e ∈ es.toList, e.val = .bool true

theorem Mp.update {w : World} {mb : Nat} {L : List Nat} (h : Mp w mb L) (y : Nat) (hy : isC w y) (hL : ∀ b ∈ L, isC w b ∧ b ≠ y) :
    ∃ w', (Instr.mapUpdate 64 (.map (some mb)) (pv y) (.bool true)).run Yba.prog w = .ok () w' ∧ Mp w' mb (L ++ [y]) ∧ Only mb w w' := by
  obtain ⟨es, ck, h1, h2, h3⟩ := h
  have hlt : mb < w.heap.size := (Array.getElem?_eq_some_iff.1 h1).1
  have hf : (Instr.findKey 24 (pv y) es.toList).run Yba.prog w = .ok none w := by rw [findKey_ptr]; exact findA_none w y hy _ _ _ h2 hL
  refine ⟨setBlock w mb (.map (es.push { key := pv y, val := .bool true, born := ck }) (ck + 1)), ?_, ⟨es.push { key := pv y, val := .bool true, born := ck }, ck + 1, ?_, ?_, ?_⟩, ⟨rfl, rfl, rfl, by simp [setBlock], fun k hk hb => by unfold setBlock; rw [Array.getElem?_setIfInBounds_ne (fun e => hb e.symm)]⟩⟩
  · simp [Instr.mapUpdate, run_underlying Yba.underlying64, getObj, setObj, Sem.run, h1, checkKey_ptr, hf, Result.andThen, setBlock]
  · unfold setBlock
    simp [hlt]
  · simp [h2]
  · intro e he
    simp at he
    rcases he with he | he
    · exact h3 e (by simpa using he)
    · rw [he]
theorem zero4 (w : World) : (zeroValue 4).run Yba.prog w = .ok (.bool false) w := by kernel_rfl
theorem Mp.look {w : World} {mb : Nat} {L : List Nat} (h : Mp w mb L) (y : Nat) (hy : isC w y) (hL : ∀ b ∈ L, isC w b) :
    (Instr.lookup 64 (.map (some mb)) (pv y) false).run Yba.prog w = .ok (.bool (decide (y ∈ L))) w := by
  obtain ⟨es, ck, h1, h2, h3⟩ := h
  by_cases hm : y ∈ L
  · obtain ⟨j, hj⟩ := findA_some w y hy es.toList L 0 h2 hL h3 hm
    have hf : (Instr.findKey 24 (pv y) es.toList).run Yba.prog w = .ok (some (j, .bool true)) w := by rw [findKey_ptr]; exact hj
    rw [decide_eq_true hm]
    simp [Instr.lookup, run_underlying Yba.underlying64, getObj, Sem.run, h1, checkKey_ptr, hf, Result.andThen]
  · have hf : (Instr.findKey 24 (pv y) es.toList).run Yba.prog w = .ok none w := by
      rw [findKey_ptr]; exact findA_none w y hy _ _ _ h2 fun b hb => ⟨hL b hb, fun e => hm (e ▸ hb)⟩
    rw [decide_eq_false hm]
    simp [Instr.lookup, run_underlying Yba.underlying64, getObj, Sem.run, h1, checkKey_ptr, hf, Result.andThen, zero4]
theorem run_makeMap64 (w : World) (m : Nat) : (Instr.makeMap 64 (some (.int .i64 (m : Int)))).run Yba.prog w = .ok (.map (some w.heap.size)) (w.alloc (.map #[] 0)) := by
  simp [Instr.makeMap, run_underlying Yba.underlying64, asInt, asIntOf, Result.andThen]
theorem Mp.new (w : World) : Mp (w.alloc (.map #[] 0)) w.heap.size [] := ⟨#[], 0, by show (w.heap.push _)[w.heap.size]? = _; simp, rfl, by simp⟩
theorem Mp.only {w w' : World} {mb : Nat} {L : List Nat} (h : Mp w mb L) {B : Nat} (hb : Below B w w') (hB : mb < B) : Mp w' mb L := by
  obtain ⟨es, ck, h1, h2, h3⟩ := h
  exact ⟨es, ck, (hb.block mb hB).trans h1, h2, h3⟩
end Go.Proofs.Ybulkcoeq
