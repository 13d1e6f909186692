import Derived.Test.YbulkcntwDoorLeaf2
namespace Go.Proofs.YbulkcntwDoor
open Go.RowKit Go.Sort
set_option linter.unusedVariables false
set_option linter.unusedSimpArgs false

theorem sub_w (h1 l1 h2 l2 : Nat) (w : World) : Calls Ybad.prog 12 #[idv h1 l1, idv h2 l2] w fun e w' => (∃ a b : Nat, (a < M ∧ b < M) ∧ e = .returned (idv a b)) ∧ Below w.heap.size w w' :=
  (sub_g h1 l1 h2 l2 w).mono fun e w' ⟨he, hg⟩ => ⟨⟨_, _, ⟨subH_lt _ _ _ _, subL_lt _ _⟩, he⟩, gr_below hg⟩
theorem add_w (h1 l1 h2 l2 : Nat) (q1 : l1 < M) (q2 : l2 < M) (w : World) : Calls Ybad.prog 13 #[idv h1 l1, idv h2 l2] w fun e w' => (∃ a b : Nat, (a < M ∧ b < M) ∧ e = .returned (idv a b)) ∧ Below w.heap.size w w' :=
  (add_any h1 l1 h2 l2 q1 q2 w).mono fun e w' ⟨he, hg⟩ => ⟨⟨_, _, ⟨Nat.mod_lt _ (by decide), Nat.mod_lt _ (by decide)⟩, he⟩, hg⟩
set_option maxHeartbeats 1000000 in
theorem half_w (h l : Nat) (q1 : h < M) (q2 : l < M) (w : World) :
    Calls Ybad.prog 67 #[idv h l] w fun e w' => (∃ a b : Nat, (a < M ∧ b < M) ∧ e = .returned (idv a b)) ∧ Below w.heap.size w w' := by
  obtain ⟨a, ha⟩ : ∃ a, a = h / 2 := ⟨_, rfl⟩
  obtain ⟨b, hb⟩ : ∃ b, b = l / 2 := ⟨_, rfl⟩
  obtain ⟨y, hy⟩ : ∃ y, y = (h * 9223372036854775808) % 18446744073709551616 := ⟨_, rfl⟩
  have e1 : (h : Int) / 2 = (a : Int) := by omega
  have e2 : (l : Int) / 2 = (b : Int) := by omega
  have e3 : IntKind.u64.wrap ((h : Int) * 9223372036854775808) = (y : Int) := by
    simp only [IntKind.wrap, IntKind.signed, IntKind.bits]; simp; omega
  have qa : a < M := by unfold M at *; omega
  have qb : b < M := by unfold M at *; omega
  have qy : y < M := by unfold M at *; omega
  have e4 := bits_or_u64_nat b y qb qy
  have HR : Hid ((b ||| y) < M) := hid (Nat.or_lt_two_pow (n := 64) qb qy)
  generalize b ||| y = r at *
  clear ha hb hy
  go_enter Ybad.func67, Ybad.ntmps67
  go_wp2
  refine bodyPost_ret (v := idv a r) (by simp [results, Ybad.results67, go_sem]) rfl ?_
  exact ⟨⟨a, r, ⟨qa, HR.out⟩, rfl⟩, gr_below (g2 _ _ _)⟩

/-- The package's variable 'one'. -/
structure One (w : World) : Prop where
  hi : w.cell? ⟨0, 0, none⟩ = some (.int .u64 0)
  lo : w.cell? ⟨0, 1, none⟩ = some (.int .u64 1)
theorem One.below {w w' : World} (h : One w) (hb : Below w.heap.size w w') : One w' := ⟨(hb.cell (p := ⟨0, 0, none⟩) (lt_of_cell h.hi)).trans h.hi, (hb.cell (p := ⟨0, 1, none⟩) (lt_of_cell h.hi)).trans h.lo⟩

theorem al2a (w : World) (a b : Obj) : ((w.alloc a).alloc b).heap[w.heap.size]? = some a := by
  rw [Below.heap_alloc _ _ _ (by simp)]; exact heap_alloc_new w a
theorem al2b (w : World) (a b : Obj) : ((w.alloc a).alloc b).heap[w.heap.size + 1]? = some b := by
  have := heap_alloc_new (w.alloc a) b
  rwa [show (w.alloc a).heap.size = w.heap.size + 1 by simp] at this
theorem al3a (w : World) (a b c : Obj) : (((w.alloc a).alloc b).alloc c).heap[w.heap.size]? = some a := by
  rw [Below.heap_alloc _ _ _ (by simp; omega)]; exact al2a w a b
theorem al3b (w : World) (a b c : Obj) : (((w.alloc a).alloc b).alloc c).heap[w.heap.size + 1]? = some b := by
  rw [Below.heap_alloc _ _ _ (by simp)]; exact al2b w a b
theorem al3c (w : World) (a b c : Obj) : (((w.alloc a).alloc b).alloc c).heap[w.heap.size + 2]? = some c := by
  have := al2b (w.alloc a) b c
  rwa [show (w.alloc a).heap.size + 1 = w.heap.size + 2 by simp] at this
/-- Block b holds the cells cs. -/
def Bx (b : Nat) (t : TypeId) (cs : Array Value) (w : World) : Prop := w.heap[b]? = some (.cells cs t (0, 0))
section
variable {b : Nat} {t : TypeId} {cs : Array Value} {w w' : World}
theorem Bx.lt (h : Bx b t cs w) : b < w.heap.size := (Array.getElem?_eq_some_iff.1 h).1
theorem Bx.cell (h : Bx b t cs w) (i : Nat) : w.cell? ⟨b, i, none⟩ = cs[i]? := cell_of_row w b i cs t (0, 0) h
theorem Bx.isC (h : Bx b t cs w) : isC w b := ⟨_, _, h⟩
theorem Bx.below {B : Nat} (h : Bx b t cs w) (hb : Below B w w') (hB : b < B) : Bx b t cs w' := (hb.block b hB).trans h
theorem Bx.read (h : Bx b t cs w) (hb : Below w.heap.size w w') : Bx b t cs w' := h.below hb h.lt
theorem Bx.drew (h : Bx b t cs w) : Bx b t cs w.drew := h
theorem Bx.alloc (h : Bx b t cs w) (o : Obj) : Bx b t cs (w.alloc o) := h.read ((Below.refl _ _).alloc (Nat.le_refl _) o)
theorem Bx.set (h : Bx b t cs w) (i : Nat) (v : Value) : Bx b t (cs.setIfInBounds i v) (w.setCell ⟨b, i, none⟩ v) := heap_setCell_same w b i cs t v h
theorem Bx.other (h : Bx b t cs w) (b' i : Nat) (v : Value) (hb : ¬ b = b') : Bx b t cs (w.setCell ⟨b', i, none⟩ v) := (Below.heap_setCell _ _ _ _ hb).trans h
end

/-! Behind a draw: a callee's frame, with blocks laid ahead of it or not -/
section
variable {a w w' : World}
theorem ch0 (X : Below a.heap.size a w) (b : Below w.heap.size w w') : Below a.heap.size a w' := X.trans (b.mono X.size)
theorem ch1 {o : Obj} (X : Below a.heap.size a w) (b : Below (w.alloc o).heap.size (w.alloc o) w') : Below a.heap.size a w' := ch0 (X.alloc X.size o) b
theorem ch2 {o o' : Obj} (X : Below a.heap.size a w) (b : Below ((w.alloc o).alloc o').heap.size ((w.alloc o).alloc o') w') : Below a.heap.size a w' := ch1 (X.alloc X.size o) b
theorem bxal {cs : Array Value} {t : TypeId} (b : Below (w.alloc (.cells cs t)).heap.size (w.alloc (.cells cs t)) w') : Bx w.heap.size t cs w' := Bx.read (heap_alloc_new w _) b
theorem bxal_drew {cs : Array Value} {t : TypeId} (b : Below (w.alloc (.cells cs t)).drew.heap.size (w.alloc (.cells cs t)).drew w') : Bx w.heap.size t cs w' := Bx.read (w := (w.alloc (.cells cs t)).drew) (heap_alloc_new w _) b
theorem Bx.two {b : Nat} {t : TypeId} {u v : Value} (h : Bx b t #[u, v] w) : (w.cell? ⟨b, 0, none⟩ = some u ∧ w.cell? ⟨b, 1, none⟩ = some v) ∧ w.frozen? ⟨b, 0, none⟩ = false ∧ w.frozen? ⟨b, 1, none⟩ = false := ⟨⟨h.cell 0, h.cell 1⟩, h.isC.frozen _, h.isC.frozen _⟩
end

set_option maxHeartbeats 1000000 in
theorem shareStart_w (h1 l1 h2 l2 : Nat) (q1 : h1 < M) (q2 : l1 < M) (q3 : h2 < M) (q4 : l2 < M) (w : World) (hO : One w) :
    Calls Ybad.prog 61 #[idv h1 l1, idv h2 l2] w fun e w' => (∃ a b : Nat, (a < M ∧ b < M) ∧ e = .returned (idv a b)) ∧ Below w.heap.size w w' := by
  have H1 := hid (fun W => sub_w h2 l2 h1 l1 W)
  obtain ⟨w1, hw1⟩ : ∃ w1, w1 = (((w.alloc (.cells #[.int .u64 (h1 : Int), .int .u64 (l1 : Int)] 26)).alloc (.cells #[.int .u64 (h2 : Int), .int .u64 (l2 : Int)] 26)).alloc (.cells #[.int .u64 0, .int .u64 0] 26)) := ⟨_, rfl⟩
  have hb1 : Below w.heap.size w w1 := by rw [hw1]; exact gr_below (g3 _ _ _ _)
  have hsz : w1.heap.size = w.heap.size + 3 := by simp [hw1]
  have HO : Hid (One w1) := hid (hO.below hb1)
  have B0 : Bx w.heap.size 26 #[.int .u64 (h1 : Int), .int .u64 (l1 : Int)] w1 := by rw [hw1]; exact al3a _ _ _ _
  have B1 : Bx (w.heap.size + 1) 26 #[.int .u64 (h2 : Int), .int .u64 (l2 : Int)] w1 := by rw [hw1]; exact al3b _ _ _ _
  have B2 : Bx (w.heap.size + 2) 26 #[.int .u64 0, .int .u64 0] w1 := by rw [hw1]; exact al3c _ _ _ _
  have c0 := B0.cell 0
  have c1 := B0.cell 1
  have c2 := B1.cell 0
  have c3 := B1.cell 1
  simp at c0 c1 c2 c3
  go_enter Ybad.func61, Ybad.ntmps61
  go_upto_region 1 with fail
  rw [← hw1]
  have HW := hid hw1
  clear hw1 hO
  go_wp2_with (first | (go_at_call 12; with_reducible (refine Calls.mono (H1.out _) ?_); rintro e w2 ⟨⟨ga, gb, ⟨qga, qgb⟩, rfl⟩, b2⟩))
  obtain ⟨w3, hw3⟩ : ∃ w3, w3 = w2.alloc (.cells #[.int .u64 (ga : Int), .int .u64 (gb : Int)] 26) := ⟨_, rfl⟩
  rw [← hw3]
  have hb3 : Below w1.heap.size w1 w3 := by rw [hw3]; exact b2.alloc b2.size _
  have hz2 := b2.size
  have HZ3 : Hid (w3.heap.size = w2.heap.size + 1) := hid (by simp [hw3])
  have HB : Hid (Bx w.heap.size 26 #[.int .u64 (h1 : Int), .int .u64 (l1 : Int)] w3 ∧ Bx (w.heap.size + 1) 26 #[.int .u64 (h2 : Int), .int .u64 (l2 : Int)] w3 ∧ Bx (w.heap.size + 2) 26 #[.int .u64 0, .int .u64 0] w3 ∧ Bx w2.heap.size 26 #[.int .u64 (ga : Int), .int .u64 (gb : Int)] w3 ∧ One w3) :=
    hid ⟨B0.read hb3, B1.read hb3, B2.read hb3, by rw [hw3]; exact heap_alloc_new _ _, HO.out.below hb3⟩
  have HSZ := hid hsz
  clear hsz
  clear hw3 c0 c1 c2 c3 B0 B1 B2 HO
  have KR : ∀ {W : World}, Below w3.heap.size w3 W → (W.cell? ⟨w.heap.size, 0, none⟩ = some (.int .u64 (h1 : Int)) ∧ W.cell? ⟨w.heap.size, 1, none⟩ = some (.int .u64 (l1 : Int))) ∧ (W.cell? ⟨w2.heap.size, 0, none⟩ = some (.int .u64 (ga : Int)) ∧ W.cell? ⟨w2.heap.size, 1, none⟩ = some (.int .u64 (gb : Int))) ∧ W.cell? ⟨0, 0, none⟩ = some (.int .u64 0) ∧ W.cell? ⟨0, 1, none⟩ = some (.int .u64 1) := fun {W} X => by
    obtain ⟨u1, u2, u3, u4, u5⟩ := HB.out
    have v1 := u1.read X
    have v4 := u4.read X
    have v5 := u5.below X
    exact ⟨⟨by rw [v1.cell]; rfl, by rw [v1.cell]; rfl⟩, ⟨by rw [v4.cell]; rfl, by rw [v4.cell]; rfl⟩, v5.hi, v5.lo⟩
  have HH := hid (fun W => half_w ga gb qga qgb W)
  have HA := hid (fun a b W (q : b < M) => add_w h1 l1 a b q2 q W)
  have HA2 := hid (fun a b W (q : b < M) => add_w a b 0 1 q (by decide) W)
  have X0 := (Below.refl w3.heap.size w3).drew
  have X0a : ∀ o, Below w3.heap.size w3 (w3.alloc o).drew := fun o => ((Below.refl w3.heap.size w3).alloc (Nat.le_refl _) o).drew
  go_cut [6] from 10 to 15 (fun s6 wc => ∃ b ja jb, s6 = .pointer (some ⟨b, 0, none⟩) ∧ ja < M ∧ jb < M ∧ Below w3.heap.size w3 wc ∧ w3.heap.size ≤ b ∧ Bx b 26 #[.int .u64 (ja : Nat), .int .u64 (jb : Nat)] wc)
  case first =>
    go_region_held3 (fun W => (W.cell? ⟨w.heap.size, 0, none⟩ = some (.int .u64 (h1 : Int)) ∧ W.cell? ⟨w.heap.size, 1, none⟩ = some (.int .u64 (l1 : Int))) ∧ (W.cell? ⟨w2.heap.size, 0, none⟩ = some (.int .u64 (ga : Int)) ∧ W.cell? ⟨w2.heap.size, 1, none⟩ = some (.int .u64 (gb : Int))) ∧ W.cell? ⟨0, 0, none⟩ = some (.int .u64 0) ∧ W.cell? ⟨0, 1, none⟩ = some (.int .u64 1)) (first | (exact KR ((X6.setCell X5.size _).setCell X5.size _)) | (exact KR ((X6.setCell X4.size _).setCell X4.size _)) | (exact KR ((X6.setCell (Nat.le_refl _) _).setCell (Nat.le_refl _) _)) | (exact KR (X6.alloc X6.size _)) | (exact KR X6) | (exact KR X5) | (exact KR (X5.alloc X5.size _)) | (exact KR X4) | (exact KR (X4.alloc X4.size _)) | (exact KR X0) | (exact KR (X0a _)) | fail) (first | (go_at_call 67; with_reducible (refine Calls.mono (HH.out (w3.alloc (Obj.cells #[Value.int .u64 0, Value.int .u64 0] 26)).drew) ?_); rintro e w4 ⟨⟨ha, hb, ⟨qha, qhb⟩, rfl⟩, b4⟩; have X4 : Below w3.heap.size w3 w4 := ch0 (X0a _) b4; have Z4 : Bx w3.heap.size 26 #[Value.int .u64 0, Value.int .u64 0] w4 := bxal_drew b4) | (go_at_call 67; with_reducible (refine Calls.mono (HH.out w3.drew) ?_); rintro e w4 ⟨⟨ha, hb, ⟨qha, qhb⟩, rfl⟩, b4⟩; have X4 : Below w3.heap.size w3 w4 := ch0 X0 b4; skip) | (go_at_call 13; with_reducible (refine Calls.mono (HA.out ha hb (w4.alloc (Obj.cells #[Value.int .u64 0, Value.int .u64 0] 26)) qhb) ?_); rintro e w5 ⟨⟨ia, ib, ⟨qia, qib⟩, rfl⟩, b5⟩; have X5 : Below w3.heap.size w3 w5 := ch1 X4 b5; have Z5 : Bx w4.heap.size 26 #[Value.int .u64 0, Value.int .u64 0] w5 := bxal b5) | (go_at_call 13; with_reducible (refine Calls.mono (HA.out ha hb w4 qhb) ?_); rintro e w5 ⟨⟨ia, ib, ⟨qia, qib⟩, rfl⟩, b5⟩; have X5 : Below w3.heap.size w3 w5 := ch0 X4 b5; have Z5 := Z4.read b5) | (go_at_call 13; with_reducible (refine Calls.mono (HA.out ha hb w4 qhb) ?_); rintro e w5 ⟨⟨ia, ib, ⟨qia, qib⟩, rfl⟩, b5⟩; have X5 : Below w3.heap.size w3 w5 := ch0 X4 b5; skip) | (go_at_call 13; with_reducible (refine Calls.mono (HA2.out ia ib (w5.alloc (Obj.cells #[Value.int .u64 0, Value.int .u64 0] 26)) qib) ?_); rintro e w6 ⟨⟨ja, jb, ⟨qja, qjb⟩, rfl⟩, b6⟩; have X6 : Below w3.heap.size w3 w6 := ch1 X5 b6; have Z6 : Bx w5.heap.size 26 #[Value.int .u64 0, Value.int .u64 0] w6 := bxal b6; obtain ⟨⟨y0, y1⟩, y2, y3⟩ := Z6.two) | (go_at_call 13; with_reducible (refine Calls.mono (HA2.out ia ib w5 qib) ?_); rintro e w6 ⟨⟨ja, jb, ⟨qja, qjb⟩, rfl⟩, b6⟩; have X6 : Below w3.heap.size w3 w6 := ch0 X5 b6; have Z6 := Z5.read b6; obtain ⟨⟨y0, y1⟩, y2, y3⟩ := Z6.two) | (go_at_call 13; with_reducible (refine Calls.mono (HA2.out ia ib w5 qib) ?_); rintro e w6 ⟨⟨ja, jb, ⟨qja, qjb⟩, rfl⟩, b6⟩; have X6 : Below w3.heap.size w3 w6 := ch0 X5 b6; skip) | fail)
    all_goals (go_wp2_with fail)
    all_goals (go_meet)
    all_goals (first | exact ⟨_, ja, jb, rfl, qja, qjb, X6.alloc X6.size _, X6.size, heap_alloc_new _ _⟩ | exact ⟨_, ja, jb, rfl, qja, qjb, (X6.setCell X5.size _).setCell X5.size _, X5.size, (Z6.set 0 _).set 1 _⟩ | exact ⟨_, ja, jb, rfl, qja, qjb, (X6.setCell X4.size _).setCell X4.size _, X4.size, (Z6.set 0 _).set 1 _⟩ | exact ⟨_, ja, jb, rfl, qja, qjb, (X6.setCell (Nat.le_refl _) _).setCell (Nat.le_refl _) _, Nat.le_refl _, (Z6.set 0 _).set 1 _⟩)
  case rest =>
  obtain ⟨b, ja, jb, rfl, qja, qjb, XC, hbl, ZB⟩ := hcut
  have hzc := XC.size
  have KT : ∀ {W : World}, Below wc.heap.size wc W → ((W.cell? ⟨w.heap.size, 0, none⟩ = some (.int .u64 (h1 : Int)) ∧ W.cell? ⟨w.heap.size, 1, none⟩ = some (.int .u64 (l1 : Int))) ∧ (W.cell? ⟨w.heap.size + 1, 0, none⟩ = some (.int .u64 (h2 : Int)) ∧ W.cell? ⟨w.heap.size + 1, 1, none⟩ = some (.int .u64 (l2 : Int)))) ∧ (W.cell? ⟨w2.heap.size, 1, none⟩ = some (.int .u64 (gb : Int)) ∧ W.cell? ⟨0, 0, none⟩ = some (.int .u64 0) ∧ W.cell? ⟨0, 1, none⟩ = some (.int .u64 1)) ∧ ((W.cell? ⟨b, 0, none⟩ = some (.int .u64 (ja : Int)) ∧ W.cell? ⟨b, 1, none⟩ = some (.int .u64 (jb : Int))) ∧ W.frozen? ⟨b, 0, none⟩ = false ∧ W.frozen? ⟨b, 1, none⟩ = false) ∧ ((W.cell? ⟨w.heap.size + 2, 0, none⟩ = some (.int .u64 0) ∧ W.cell? ⟨w.heap.size + 2, 1, none⟩ = some (.int .u64 0)) ∧ W.frozen? ⟨w.heap.size + 2, 0, none⟩ = false ∧ W.frozen? ⟨w.heap.size + 2, 1, none⟩ = false) := fun {W} X => by
    obtain ⟨u1, u2, u3, u4, u5⟩ := HB.out
    have XW : Below w3.heap.size w3 W := ch0 XC X
    exact ⟨⟨(u1.read XW).two.1, (u2.read XW).two.1⟩, ⟨(u4.read XW).two.1.2, (u5.below XW).hi, (u5.below XW).lo⟩, (ZB.read X).two, (u3.read XW).two⟩
  have HBN : Hid (w.heap.size ≤ b ∧ ¬ b = w.heap.size + 2) := hid (by have := HB.out.2.2.1.lt; omega)
  have nb1 := HBN.out.2
  have nb2 : ¬ w.heap.size + 2 = b := fun h => nb1 h.symm
  have BW : ∀ {W : World}, Below wc.heap.size wc W → Below w.heap.size w W := fun {W} X => hb1.trans ((hb3.trans ((ch0 XC X).mono hb3.size)).mono hb1.size)
  have HC := hid (fun W => compare_g h2 l2 h1 l1 W)
  have HS := hid (fun W => sub_w ja jb 0 1 W)
  have FIN : ∀ {W : World} {x y : Nat}, x < M → y < M → Below w.heap.size w W → (∃ a b : Nat, (a < M ∧ b < M) ∧ Ending.returned (idv x y) = Ending.returned (idv a b)) ∧ Below w.heap.size w ((W.setCell ⟨w.heap.size + 2, 0, none⟩ (.int .u64 (x : Int))).setCell ⟨w.heap.size + 2, 1, none⟩ (.int .u64 (y : Int))) := fun {W x y} q1 q2 X => ⟨⟨x, y, ⟨q1, q2⟩, rfl⟩, (X.setCell (by simp) _).setCell (by simp) _⟩
  have RES : ∀ {W : World} {x y : Nat}, W.cell? ⟨w.heap.size + 2, 0, none⟩ = some (.int .u64 0) → W.cell? ⟨w.heap.size + 2, 1, none⟩ = some (.int .u64 0) → (W.setCell ⟨w.heap.size + 2, 0, none⟩ (.int .u64 (x : Int))).cell? ⟨w.heap.size + 2, 0, none⟩ = some (.int .u64 (x : Int)) ∧ ((W.setCell ⟨w.heap.size + 2, 0, none⟩ (.int .u64 (x : Int))).setCell ⟨w.heap.size + 2, 1, none⟩ (.int .u64 (y : Int))).cell? ⟨w.heap.size + 2, 1, none⟩ = some (.int .u64 (y : Int)) := fun {W x y} z0 z1 => ⟨World.cell?_setCell_same _ _ _ z0, World.cell?_setCell_same _ _ _ ((sc_off _ _ _ _ _ _ (by omega)).trans z1)⟩
  have F0 := KT (Below.refl _ wc)
  obtain ⟨⟨⟨a1, a2⟩, a3, a4⟩, ⟨a5, a6, a7⟩, ⟨⟨a8, a9⟩, a10, a11⟩, ⟨a12, a13⟩, a14, a15⟩ := F0
  clear hb1 hb3 hz2 HW H1 HZ3 HSZ X0 X0a KR HH HA HA2
  rename ∀ (a : Act) (w : World), Code.wp Ybad.prog _ _ a w → _ => hK
  refine hK _ _ ?_
  clear hK
  by_cases hz : bits BinOp.and .u64 (gb : Int) 1 = 0
  · by_cases hr : cmp h2 l2 h1 l1 < 0
    · have hd : decide (cmp h2 l2 h1 l1 < 0) = true := by simpa using hr
      generalize cmp h2 l2 h1 l1 = r at *
      go_wp2_with (first | (go_at_call 24; with_reducible (refine Calls.mono (HC.out _) ?_); rintro e w7 ⟨rfl, b7⟩; have X7 : Below wc.heap.size wc w7 := gr_below b7; have F7 := KT X7; obtain ⟨⟨⟨a1, a2⟩, a3, a4⟩, ⟨a5, a6, a7⟩, ⟨⟨a8, a9⟩, a10, a11⟩, ⟨a12, a13⟩, a14, a15⟩ := F7) | (go_at_call 12; with_reducible (refine Calls.mono (HS.out _) ?_); rintro e w8 ⟨⟨xa, xb, ⟨qxa, qxb⟩, rfl⟩, b8⟩; have X8 : Below wc.heap.size wc w8 := ch0 X7 b8; have F8 := KT X8; obtain ⟨⟨⟨a1, a2⟩, a3, a4⟩, ⟨a5, a6, a7⟩, ⟨⟨a8, a9⟩, a10, a11⟩, ⟨a12, a13⟩, a14, a15⟩ := F8; have s0 : (w8.setCell ⟨b, 0, none⟩ (.int .u64 (xa : Int))).cell? ⟨b, 0, none⟩ = some (.int .u64 (xa : Int)) := World.cell?_setCell_same _ _ _ a8; have s1 : ((w8.setCell ⟨b, 0, none⟩ (.int .u64 (xa : Int))).setCell ⟨b, 1, none⟩ (.int .u64 (xb : Int))).cell? ⟨b, 1, none⟩ = some (.int .u64 (xb : Int)) := World.cell?_setCell_same _ _ _ ((sc_off _ _ _ _ _ _ (by omega)).trans a9)) | fail)
      obtain ⟨r0, r1⟩ := RES (W := (w8.setCell ⟨b, 0, none⟩ (.int .u64 (xa : Int))).setCell ⟨b, 1, none⟩ (.int .u64 (xb : Int))) (x := xa) (y := xb) (by rw [sc_ne _ _ _ _ _ _ nb1, sc_ne _ _ _ _ _ _ nb1]; exact a12) (by rw [sc_ne _ _ _ _ _ _ nb1, sc_ne _ _ _ _ _ _ nb1]; exact a13)
      refine bodyPost_ret (v := idv xa xb) (by simp [results, Ybad.results61, go_sem, r0, r1]) rfl ?_
      exact FIN qxa qxb (((BW X8).setCell HBN.out.1 _).setCell HBN.out.1 _)
    · have hd : decide (cmp h2 l2 h1 l1 < 0) = false := by simpa using hr
      generalize cmp h2 l2 h1 l1 = r at *
      go_wp2_with (first | (go_at_call 24; with_reducible (refine Calls.mono (HC.out _) ?_); rintro e w7 ⟨rfl, b7⟩; have X7 : Below wc.heap.size wc w7 := gr_below b7; have F7 := KT X7; obtain ⟨⟨⟨a1, a2⟩, a3, a4⟩, ⟨a5, a6, a7⟩, ⟨⟨a8, a9⟩, a10, a11⟩, ⟨a12, a13⟩, a14, a15⟩ := F7) | fail)
      obtain ⟨r0, r1⟩ := RES (W := w7) (x := ja) (y := jb) a12 a13
      refine bodyPost_ret (v := idv ja jb) (by simp [results, Ybad.results61, go_sem, r0, r1]) rfl ?_
      exact FIN qja qjb (BW X7)
  · go_wp2_with fail
    obtain ⟨r0, r1⟩ := RES (W := wc) (x := ja) (y := jb) a12 a13
    refine bodyPost_ret (v := idv ja jb) (by simp [results, Ybad.results61, go_sem, r0, r1]) rfl ?_
    exact FIN qja qjb (BW (Below.refl _ _))
end Go.Proofs.YbulkcntwDoor
