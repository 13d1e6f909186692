import Derived.Test.YbulkcntwDoorCompact
import Derived.Shelf.SlSortCmp.WholeK
import Derived.Shelf.Lay
import Derived.Ground.SlsfProg
namespace Go.Proofs.YbulkcntwDoor
open Go.Shelf Go.RowKit Go.Lib Go.Sort
set_option linter.unusedVariables false
set_option linter.unusedSimpArgs false
shelf_lay_g SlLaysF0.n6 Slsf 6 at Ybad 28 as Ybad.sortC

theorem ltR (sh sl : Nat) (a b : C) : ltOf (rcmp sh sl) a b = decide (num (subH a.hi a.lo sh sl) (subL a.lo sl) < num (subH b.hi b.lo sh sl) (subL b.lo sl)) := by
  unfold ltOf rcmp
  rw [decide_eq_decide]
  exact cmp_lt (subL_lt _ _) (subL_lt _ _)
theorem swoR (sh sl : Nat) : SWO (ltOf (rcmp sh sl)) where
  irrefl x := by rw [ltR]; simp
  trans x y z h1 h2 := by rw [ltR] at *; simp at *; omega
  ntrans x y z h1 h2 := by rw [ltR] at *; simp at *; omega

theorem sw_heap (w : World) (g m : Nat) (dk : Array C) (os : Array Obj) (k : Nat) (hk : k < w.heap.size) (hg : ¬ k = g) : (sortWorldK C.enc 3 w g 0 m dk os).heap[k]? = w.heap[k]? := by
  unfold sortWorldK grow putRowK putRow mapBlock Sort.ahead
  simp only
  rw [Array.getElem?_append_left (by simpa using hk), Array.getElem?_modify]
  simp [Ne.symm hg, fun h => hg (Eq.symm h)]
theorem sw_only (w : World) (g m : Nat) (dk : Array C) (os : Array Obj) : Only g w (sortWorldK C.enc 3 w g 0 m dk os) :=
  ⟨rfl, rfl, rfl, by unfold sortWorldK grow putRowK putRow mapBlock Sort.ahead; simp, fun k hk hg => sw_heap w g m dk os k hk hg⟩
theorem sw_isC (w : World) (g m : Nat) (dk : Array C) (os : Array Obj) (h : isC w g) : isC (sortWorldK C.enc 3 w g 0 m dk os) g := by
  have hlt := h.lt
  obtain ⟨c, t, h⟩ := h
  refine ⟨putCells id 0 (flatK C.enc 3 dk) c, t, ?_⟩
  unfold sortWorldK grow putRowK putRow mapBlock Sort.ahead
  simp only
  rw [Array.getElem?_append_left (by simpa using hlt), Array.getElem?_modify]
  simp [h, onCells]
theorem Row.holds {g : Nat} {d : List C} {w : World} (h : Row g d w) : HoldsK C.enc 3 w g 0 d.toArray := by
  intro j hj
  have hj' : j < d.toArray.size * 3 := by simpa [flatK] using hj
  rw [get_flatK _ _ _ _ hj']
  have hj3 : j / 3 < d.length := by simp at hj'; omega
  have r := h.at (j / 3) hj3
  refine ⟨?_, h.ic.frozen _⟩
  have e0 : d.toArray[j / 3]! = d[j / 3]! := by simp
  rw [e0]
  have : j % 3 = 0 ∨ j % 3 = 1 ∨ j % 3 = 2 := by omega
  rcases this with e | e | e
  · rw [e, show 0 + j = j / 3 * 3 by omega, r.1]; rfl
  · rw [e, show 0 + j = j / 3 * 3 + 1 by omega, r.2.1]; rfl
  · rw [e, show 0 + j = j / 3 * 3 + 2 by omega, r.2.2]; rfl
theorem Row.of_holds {g : Nat} {d : Array C} {w : World} (h : HoldsK C.enc 3 w g 0 d) (hi : isC w g) : Row g d.toList w :=
  ⟨hi, fun k hk => by
    have hk' : k < d.size := by simpa using hk
    have e : d[k]! = d.toList[k] := by rw [getElem!_pos d k hk']; simp
    have r0 := (h.cell (i := k) (c := 0) hk' (by omega)).1
    have r1 := (h.cell (i := k) (c := 1) hk' (by omega)).1
    have r2 := (h.cell (i := k) (c := 2) hk' (by omega)).1
    rw [e] at r0 r1 r2
    rw [show 0 + k * 3 + 0 = k * 3 by omega] at r0
    rw [show 0 + k * 3 + 1 = k * 3 + 1 by omega] at r1
    rw [show 0 + k * 3 + 2 = k * 3 + 2 by omega] at r2
    exact ⟨r0, r1, r2⟩⟩

theorem Slf.only {g bx rb sh sl : Nat} {w w' : World} (h : Slf bx rb sh sl w) (ho : Only g w w') (h1 : ¬ bx = g) (h2 : ¬ rb = g) : Slf bx rb sh sl w' :=
  ⟨(ho.cell (lt_of_cell h.box) h1).trans h.box, (ho.cell (lt_of_cell h.hi) h2).trans h.hi, (ho.cell (lt_of_cell h.hi) h2).trans h.lo⟩
theorem Slf.below {B bx rb sh sl : Nat} {w w' : World} (h : Slf bx rb sh sl w) (hb : Below w.heap.size w w') : Slf bx rb sh sl w' :=
  ⟨(hb.cell (p := ⟨bx, 0, none⟩) (lt_of_cell h.box)).trans h.box, (hb.cell (p := ⟨rb, 0, none⟩) (lt_of_cell h.hi)).trans h.hi, (hb.cell (p := ⟨rb, 1, none⟩) (lt_of_cell h.hi)).trans h.lo⟩

/-- No later one less than an earlier one. -/
def Sorted (sh sl : Nat) (d : List C) : Prop := ∀ i j, i < j → j < d.length → ¬ rcmp sh sl d[j]! d[i]! < 0
theorem sort_any (bx rb sh sl g cap : Nat) (d : List C) (w : World) (hS : Slf bx rb sh sl w) (h1 : ¬ bx = g) (h2 : ¬ rb = g) (hR : Row g d w) (hl : d.length ≤ 1000) :
    Calls Ybad.prog 28 #[.slice (some ⟨g, 0, none⟩) d.length cap, .func (.func 29) #[] #[.pointer (some ⟨bx, 0, none⟩)]] w fun e w' => e = .returned (.tuple #[]) ∧ ∃ d' : List C, d'.Perm d ∧ Sorted sh sl d' ∧ Only g w w' ∧ Row g d' w' := by
  have eg : ∀ args w, (callFunc 29 args).run Ybad.prog w = .ok (.enter 29 args) w := enters_of Ybad.func29 (by kernel_rfl) rfl
  have hcon := AnyQ.slices_SortFunc Ybad.sortC 3 Ybad.isAgg43 Ybad.sizeOf43 C.enc (fun _ => rfl) (fun x v hv => by simp [C.enc] at hv; rcases hv with rfl | rfl | rfl <;> rfl) (rcmp sh sl) (swoR sh sl) 29 #[.pointer (some ⟨bx, 0, none⟩)] g 0 cap d.toArray w eg (fun m os dk _ x y => ring_g bx rb sh sl x y _ (hS.only (sw_only w g m dk os) h1 h2)) hR.holds hR.ic.lt (by simp; omega)
  change Calls Ybad.prog 28 _ _ _ at hcon
  rw [show d.toArray.size = d.length by simp] at hcon
  refine hcon.mono ?_
  rintro e w' ⟨he, d', n, os, ⟨p1, p2, p3⟩, hs, rfl⟩
  have p1' : d'.size = d.length := by simpa using p1
  refine ⟨he, d'.toList, ?_, ?_, sw_only _ _ _ _ _, ?_⟩
  · have h3 := p3
    simp at h3
    rwa [show d.length = d'.toList.length by simpa using p1'.symm, List.take_length] at h3
  · intro i j hij hj
    have hj' : j < d'.size := by simpa using hj
    have := hs i j (Nat.zero_le _) hij (by rw [← p1']; exact hj')
    unfold ltOf at this
    have e1 : d'.toList[j]! = d'[j]! := by rw [getElem!_pos d'.toList j hj, getElem!_pos d' j hj']; simp
    have e2 : d'.toList[i]! = d'[i]! := by rw [getElem!_pos d'.toList i (by omega), getElem!_pos d' i (by omega)]; simp
    rw [e1, e2]
    simpa using this
  · have hsw : SWK C.enc 3 w g 0 d' (sortWorldK C.enc 3 w g 0 n d' os) := ⟨n, os, rfl⟩
    exact Row.of_holds (hsw.holds hR.ic.lt hR.holds (by simpa using p1)) (sw_isC _ _ _ _ _ hR.ic)
end Go.Proofs.YbulkcntwDoor
