import Derived.Test.YbulkcntwFmtCheck
import Derived.Laws.BytesArg
import Derived.Laws.AppendOwn
import Derived.Laws.OwnMore
import Derived.OwnWalk
namespace Go.Proofs.YbulkcntwFmt
open Go.RowKit Go.Extern.Stop Go.Stop Go.Extern
set_option linter.unusedVariables false
set_option linter.unusedSimpArgs false

theorem info9 : (Ybaf.prog.info? 9).map (fun i => (i.zero, i.size, i.bytes)) = some (some (.string ⟨#[]⟩), 1, 16) := by kernel_rfl
theorem info5 : (Ybaf.prog.info? 5).map (fun i => (i.zero, i.size, i.bytes)) = some (some (.int .u8 0), 1, 1) := by kernel_rfl

/-- The row of keywords so far, the bytes of the keyword in hand. -/
structure Two (w : World) (n : Nat) (ksv curv : Value) (S : List ByteArray) (B : List Int) (v : World) : Prop where
  bel : Below w.heap.size w v
  ks : v.ownsRow w.heap.size 9 1 ksv S.length (S.map Value.string)
  cur : v.ownsRow w.heap.size 5 1 curv B.length (B.map (Value.int .u8))
  ns : S.length ≤ n
  nb : B.length ≤ n
  sz : ∀ s ∈ S, s.size ≤ n

theorem own_form {v : World} {base e n : Nat} {x : Value} {xs : List Value} (h : v.ownsRow base e 1 x n xs) : ∃ p cap, x = .slice p n cap ∧ n ≤ cap ∧ cap ≤ 9223372036854775807 := by
  rcases h.2 with ⟨rfl, rfl⟩ | ⟨g, cap, cur, rfl, _, _, h1, h2, _⟩
  · exact ⟨none, 0, rfl, Nat.le_refl _, by omega⟩
  · exact ⟨_, cap, rfl, h1, h2⟩
theorem own_zero {v : World} {base e n cap : Nat} {p : Option Addr} {xs : List Value} (h : v.ownsRow base e 1 (.slice p n cap) n xs) : v.ownsRow base e 1 (.slice p 0 cap) 0 [] := by
  rcases h.2 with ⟨h1, rfl⟩ | ⟨g, c, cur, h1, h2, h3, h4, h5, h6, _⟩
  · cases h1; exact World.ownsRow_nil _ _ _ _
  · cases h1
    exact ⟨rfl, .inr ⟨g, _, cur, rfl, h2, h3, Nat.zero_le _, h5, h6, by simp⟩⟩
theorem own_apart {v : World} {b1 b2 e1 e2 n1 n2 : Nat} {x y : Value} {xs ys : List Value} (h1 : v.ownsRow b1 e1 1 x n1 xs) (h2 : v.ownsRow b2 e2 1 y n2 ys) (hne : e1 ≠ e2) : x.ownBlock = none ∨ x.ownBlock ≠ y.ownBlock := by
  rcases h1.2 with ⟨rfl, _⟩ | ⟨g, c, cur, rfl, _, hg, _⟩
  · exact Or.inl rfl
  · right
    rcases h2.2 with ⟨rfl, _⟩ | ⟨g2, c2, cur2, rfl, _, hg2, _⟩
    · simp [Value.ownBlock]
    · intro h
      simp [Value.ownBlock] at h
      subst h
      rw [hg] at hg2
      simp at hg2
      exact hne hg2.2
theorem cur_string {v : World} {base n cap : Nat} {p : Option Addr} {B : List Int} (h : v.ownsRow base 5 1 (.slice p n cap) n (B.map (Value.int .u8))) : (convert 24 9 (.slice p n cap)).run Ybaf.prog v = .ok (.string (strOfNums B)) v := by
  have hlen : B.length = n := by have := h.1; simpa using this
  have h0 := h
  rcases h.2 with ⟨h1, rfl⟩ | ⟨g, c, cur, h1, h2, h3, h4, h5, h6, _⟩
  · cases h1
    have : B = [] := List.eq_nil_of_length_eq_zero hlen
    subst this
    exact run_convert_bytes_nil (P := Ybaf.prog) v 24 5 Ybaf.underlying24 Ybaf.underlying5 0 0 9 Ybaf.underlying9
  · cases h1
    refine run_convert_bytes_arg (P := Ybaf.prog) v 24 5 Ybaf.underlying24 Ybaf.underlying5 g 0 n cap B hlen (fun i hi => ?_) 9 Ybaf.underlying9
    rw [Nat.zero_add, World.ownsRow.cellAt h0 i (by omega)]
    have hi' : i < B.length := by omega
    simp [List.getD, List.getElem?_eq_getElem hi']

theorem judge_row (F : Interp) (a : Addr) (st name : ByteArray) (ksv : Value) (S : List ByteArray) (base n : Nat) (v : World) (hS : Sen F a st v) (hn : n ≤ 2000) (hl : S.length ≤ n) (hz : ∀ s ∈ S, s.size ≤ n) (h : v.ownsRow base 9 1 ksv S.length (S.map Value.string)) :
    Calls Ybaf.prog 5 #[.string name, ksv] v fun e w' => e = .returned (.bool true) ∧ Below v.heap.size v w' := by
  have h0 := h
  rcases h.2 with ⟨rfl, hl0⟩ | ⟨g, cap, cur, rfl, h2, h3, h4, h5, h6, _⟩
  · exact judge_any F a st name none 0 0 (fun _ => ⟨#[]⟩) v hS (by omega) (fun h => by omega)
  · refine judge_any F a st name _ S.length cap (fun i => S.getD i ⟨#[]⟩) v hS (by omega) (fun h => ⟨_, rfl, (Array.getElem?_eq_some_iff.1 h3).1, fun i hi => ?_⟩)
    have hadd : (⟨g, 0, none⟩ : Addr).add i = ⟨g, i, none⟩ := by unfold Addr.add; split <;> simp_all
    refine ⟨?_, ?_⟩
    · rw [hadd, World.ownsRow.cellAt h0 i (by omega)]
      simp [List.getD, List.getElem?_eq_getElem hi]
    · have : S.getD i ⟨#[]⟩ ∈ S := by
        rw [List.getD_eq_getElem?_getD, List.getElem?_eq_getElem hi]
        exact List.getElem_mem _
      have := hz _ this
      show (S.getD i ⟨#[]⟩).size ≤ _
      omega

theorem one_cell (w : World) (u : Value) (t : TypeId) : ∀ j x, [u][j]? = some x → (w.alloc (.cells #[u] t)).cell? ((⟨w.heap.size, 0, none⟩ : Addr).add j) = some x := by
  intro j x hj
  match j, hj with
  | 0, hj => simp at hj; subst hj; simp [Addr.add]
  | j + 1, hj => simp at hj

/-- The table's sign at j. -/
theorem table_at (j : Nat) (h : j < 15) : ∃ b : Nat, ∀ (w : World), (Instr.index 9 (.string ⟨#[97, 122, 48, 57, 109, 53, 98, 55, 65, 90, 45, 47, 58, 96, 123]⟩) (.int .i64 (j : Int))).run Ybaf.prog w = .ok (.int .u8 (b : Int)) w := by
  have hs : (⟨#[97, 122, 48, 57, 109, 53, 98, 55, 65, 90, 45, 47, 58, 96, 123]⟩ : ByteArray).size = 15 := rfl
  refine ⟨((⟨#[97, 122, 48, 57, 109, 53, 98, 55, 65, 90, 45, 47, 58, 96, 123]⟩ : ByteArray)[j]'(by rw [hs]; exact h)).toNat, fun w => ?_⟩
  rw [run_index_string w 9 _ .i64 j Ybaf.underlying9, dif_pos ⟨by omega, by rw [hs]; omega⟩]
  rfl

theorem Two.push {w v w3 : World} {n : Nat} {ksv curv v' : Value} {S : List ByteArray} {B : List Int} (h : Two w n ksv curv S B v) (s : ByteArray) (o : Obj) (ho : (v.alloc o).grownBy w3 ksv.ownBlock) (hown : w3.ownsRow w.heap.size 9 1 v' (S.length + 1) (S.map Value.string ++ [.string s])) :
    Below w.heap.size w w3 ∧ w3.ownsRow w.heap.size 5 1 curv B.length (B.map (Value.int .u8)) ∧ w3.ownsRow w.heap.size 9 1 v' (S ++ [s]).length ((S ++ [s]).map Value.string) := by
  have hz := h.bel.size
  refine ⟨Below.grown (h.bel.alloc hz o) ho (by simp; omega) (fun k hk => (h.ks.lt k hk).1), (h.cur.alloc o).kept ho (own_apart h.cur h.ks (by decide)), ?_⟩
  simpa using hown
theorem Two.more {w v w3 : World} {n : Nat} {ksv curv v' : Value} {S : List ByteArray} {B : List Int} (h : Two w n ksv curv S B v) (b : Int) (o : Obj) (ho : (v.alloc o).grownBy w3 curv.ownBlock) (hown : w3.ownsRow w.heap.size 5 1 v' (B.length + 1) (B.map (Value.int .u8) ++ [.int .u8 b])) :
    Below w.heap.size w w3 ∧ w3.ownsRow w.heap.size 9 1 ksv S.length (S.map Value.string) ∧ w3.ownsRow w.heap.size 5 1 v' (B ++ [b]).length ((B ++ [b]).map (Value.int .u8)) := by
  have hz := h.bel.size
  refine ⟨Below.grown (h.bel.alloc hz o) ho (by simp; omega) (fun k hk => (h.cur.lt k hk).1), (h.ks.alloc o).kept ho (own_apart h.ks h.cur (by decide)), ?_⟩
  simpa using hown

set_option maxRecDepth 100000 in
set_option maxHeartbeats 8000000 in
theorem built_any (F : Interp) (a : Addr) (st name : ByteArray) (p : Option Addr) (n cap : Nat) (x : Nat → Nat) (w : World) (hS : Sen F a st w) (hn : n ≤ 9223372036854775807)
    (h : 0 < n → ∃ A, p = some A ∧ A.block < w.heap.size ∧ ∀ i, i < n → w.cell? (A.add i) = some (.int .u8 (x i : Int)) ∧ x i ≤ 255) :
    Calls Ybaf.prog 4 #[.string name, .slice p n cap] w fun e w' => e = .returned (.bool true) ∧ Below w.heap.size w w' := by
  obtain ⟨i9, hi9, hz9, hs9, hb9⟩ := info_parts info9
  obtain ⟨i5, hi5, hz5, hs5, hb5⟩ := info_parts info5
  have HA := hid h
  have HS := hid hS
  clear h hS
  by_cases hbig : 1024 < n
  · have hd : decide ((1024 : Int) < (n : Int)) = true := by simp; omega
    go_enter Ybaf.func4, Ybaf.ntmps4
    go_wp2
    go_ret
    exact ⟨rfl, Below.refl _ _⟩
  · have hd : decide ((1024 : Int) < (n : Int)) = false := by simp; omega
    go_enter Ybaf.func4, Ybaf.ntmps4
    go_wp2_with fail
    go_loopw [5, 6, 7] (fun s5 s6 s7 v => ∃ (i : Nat) (S : List ByteArray) (B : List Int), s7 = .int .i64 (i : Int) ∧ i ≤ n ∧ Two w i s5 s6 S B v) (fun _ _ s7 _ => n - (intOf s7).toNat)
    case atStart => exact ⟨0, [], [], rfl, Nat.zero_le _, ⟨Below.refl _ _, World.ownsRow_nil _ _ _ _, World.ownsRow_nil _ _ _ _, Nat.le_refl _, Nat.le_refl _, by simp⟩⟩
    case round =>
      obtain ⟨i, S, B, rfl, hi, hT⟩ := hrel
      obtain ⟨p6, c6, rfl, hc6a, hc6b⟩ := own_form hT.cur
      have hcv := cur_string hT.cur
      have hS1 := HS.out.below hT.bel rfl
      have hwz := hT.bel.size
      have HT := hid hT
      have HS1 := hid hS1
      have hBn := hT.nb
      have hSn := hT.ns
      clear hT hS1
      obtain ⟨s, hs⟩ : ∃ s, s = strOfNums B := ⟨_, rfl⟩
      rw [← hs] at hcv
      have HSS : Hid (s.size = B.length) := hid (by rw [hs, strOfNums_size])
      clear hs
      by_cases hlt : i < n
      · have hdl : decide ((i : Int) < (n : Int)) = true := by simp; omega
        obtain ⟨A, rfl, hAb, hst⟩ := HA.out (by omega)
        obtain ⟨hc, hx⟩ := hst i hlt
        have hc1 := (HT.out.bel.cell (p := A.add i) (by rw [add_block]; exact hAb)).trans hc
        clear hst hc
        generalize x i = xv at *
        obtain ⟨j, hj⟩ : ∃ j, j = xv % 16 := ⟨_, rfl⟩
        have hj' : (xv : Int) % 16 = (j : Int) := by omega
        have hj16 : j < 16 := by omega
        clear hj
        by_cases h15 : j = 15
        · have hj15 : (xv : Int) % 16 = 15 := by omega
          clear hj' hj16 h15
          go_wp2_with (first
            | (at_builtin; go_must (refine wpList_append_own _ rfl _ _ 22 rfl w.heap.size 9 i9 (.string ⟨#[]⟩) 1 16 Ybaf.underlying22 hi9 hz9 hs9 hb9 rfl (by decide) _ _ _ rfl (HT.out.ks.alloc _) ⟨wr.heap.size, 0, none⟩ 1 1 [.string s] rfl rfl (one_cell _ _ _) (fun u hu => by simp at hu; subst hu; rfl) (by unfold maxLen; omega) (by omega) (by simp; omega) ?_); intro v' w3 hown' hgrow3 hnil3; have X : Hid (Below w.heap.size w w3 ∧ w3.ownsRow w.heap.size 5 1 _ B.length (B.map (Value.int .u8)) ∧ w3.ownsRow w.heap.size 9 1 v' (S ++ [s]).length ((S ++ [s]).map Value.string)) := hid (HT.out.push _ _ hgrow3 hown'); clear hown' hgrow3 hnil3))
          obtain ⟨x1, x2, x3⟩ := X.out
          refine ⟨⟨i + 1, S ++ [s], [], congrArg _ (by omega), by omega, ⟨x1, x3, own_zero x2, by simp; omega, by simp, fun t ht => ?_⟩⟩, ?_⟩
          · rcases List.mem_append.1 ht with h1 | h1
            · exact Nat.le_succ_of_le (HT.out.sz t h1)
            · simp at h1
              rw [h1, HSS.out]
              omega
          · show n - ((i : Int) + 1).toNat < n - ((i : Int)).toNat
            omega
        · have hd1 : decide ((j : Int) = 15) = false := by simp; omega
          have hd2 : decide (j = 15) = false := by simp; omega
          have hd3 : ((j : Int) == 15) = false := by simp; omega
          have hd4 : (j == 15) = false := by simp; omega
          obtain ⟨b, hb⟩ := table_at j (by omega)
          go_wp2_with (first
            | (at_builtin; go_must (refine wpList_append_own _ rfl _ _ 24 rfl w.heap.size 5 i5 (.int .u8 0) 1 1 Ybaf.underlying24 hi5 hz5 hs5 hb5 rfl (by decide) _ _ _ rfl (HT.out.cur.alloc _) ⟨wr.heap.size, 0, none⟩ 1 1 [.int .u8 (b : Int)] rfl rfl (one_cell _ _ _) (fun u hu => by simp at hu; subst hu; rfl) (by unfold maxLen; omega) (by omega) (by simp; omega) ?_); intro v' w3 hown' hgrow3 hnil3; have X : Hid (Below w.heap.size w w3 ∧ w3.ownsRow w.heap.size 9 1 _ S.length (S.map Value.string) ∧ w3.ownsRow w.heap.size 5 1 v' (B ++ [(b : Int)]).length ((B ++ [(b : Int)]).map (Value.int .u8))) := hid (HT.out.more _ _ hgrow3 hown'); clear hown' hgrow3 hnil3))
          obtain ⟨x1, x2, x3⟩ := X.out
          refine ⟨⟨i + 1, S, B ++ [(b : Int)], congrArg _ (by omega), by omega, ⟨x1, x2, x3, by omega, by simp; omega, fun t ht => Nat.le_succ_of_le (HT.out.sz t ht)⟩⟩, ?_⟩
          show n - ((i : Int) + 1).toNat < n - ((i : Int)).toNat
          omega
      · have hdl : decide ((i : Int) < (n : Int)) = false := by simp; omega
        by_cases hB0 : 0 < B.length
        · have hdb : decide ((0 : Int) < (B.length : Int)) = true := decide_eq_true (by omega)
          go_wp2_with (first
            | (at_builtin; go_must (refine wpList_append_own _ rfl _ _ 22 rfl w.heap.size 9 i9 (.string ⟨#[]⟩) 1 16 Ybaf.underlying22 hi9 hz9 hs9 hb9 rfl (by decide) _ _ _ rfl (HT.out.ks.alloc _) ⟨wr.heap.size, 0, none⟩ 1 1 [.string s] rfl rfl (one_cell _ _ _) (fun u hu => by simp at hu; subst hu; rfl) (by unfold maxLen; omega) (by omega) (by simp; omega) ?_); intro v' w3 hown' hgrow3 hnil3; have X : Hid (Below w.heap.size w w3 ∧ w3.ownsRow w.heap.size 5 1 _ B.length (B.map (Value.int .u8)) ∧ w3.ownsRow w.heap.size 9 1 v' (S ++ [s]).length ((S ++ [s]).map Value.string)) := hid (HT.out.push _ _ hgrow3 hown'); clear hown' hgrow3 hnil3; have HJ := hid (judge_row F a st name v' (S ++ [s]) w.heap.size (n + 1) w3 (HS.out.below X.out.1 rfl) (by omega) (by simp; omega) (fun t ht => by rcases List.mem_append.1 ht with h1 | h1; exact Nat.le_trans (HT.out.sz t h1) (by omega); simp at h1; rw [h1, HSS.out]; omega) X.out.2.2))
            | (go_at_call 5; with_reducible (refine Calls.mono HJ.out ?_); rintro e w4 ⟨rfl, hb⟩))
          go_ret
          exact ⟨rfl, X.out.1.trans (hb.mono X.out.1.size)⟩
        · have hdb : decide ((0 : Int) < (B.length : Int)) = false := decide_eq_false (by omega)
          have hB1 : B.length = 0 := by omega
          have HJ := hid (judge_row F a st name _ S w.heap.size n wr HS1.out (by omega) (by omega) (fun t ht => Nat.le_trans (HT.out.sz t ht) (by omega)) HT.out.ks)
          go_wp2_with (first
            | (go_at_call 5; with_reducible (refine Calls.mono HJ.out ?_); rintro e w4 ⟨rfl, hb⟩))
          go_ret
          exact ⟨rfl, HT.out.bel.trans (hb.mono hwz)⟩
end Go.Proofs.YbulkcntwFmt
