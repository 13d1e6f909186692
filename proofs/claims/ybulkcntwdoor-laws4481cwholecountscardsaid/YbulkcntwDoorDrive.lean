import Derived.Test.YbulkcntwDoorDrvRts
namespace Go.Proofs.YbulkcntwDoor
open Go.RowKit Go.Sort
set_option linter.unusedVariables false
set_option linter.unusedSimpArgs false

def encsP (d : List Pr) : List Value := d.flatMap Pr.enc
theorem encsP_length (d : List Pr) : (encsP d).length = d.length * 3 := by
  induction d with
  | nil => rfl
  | cons a d ih => simp only [encsP, List.flatMap_cons, List.length_append, List.length_cons, List.length_nil] at *; omega
theorem encsP_append (a b : List Pr) : encsP (a ++ b) = encsP a ++ encsP b := by simp [encsP]
theorem encsP_get (d : List Pr) (i r : Nat) (h : i < d.length) (hr : r < 3) : (encsP d)[i * 3 + r]? = (Pr.enc d[i]!)[r]? := by
  induction d generalizing i with
  | nil => exact absurd h (by simp)
  | cons a d ih =>
    cases i with
    | zero =>
      simp only [encsP, List.flatMap_cons]
      rw [List.getElem?_append_left (by simp [Pr.enc]; omega)]
      simp
    | succ i =>
      have := ih i (by simpa using h)
      simp only [encsP, List.flatMap_cons] at *
      rw [List.getElem?_append_right (by simp [Pr.enc]; omega), show (i + 1) * 3 + r - (Pr.enc a).length = i * 3 + r by simp [Pr.enc]; omega, this]
      simp
theorem encsP_one (d : List Pr) : ∀ u ∈ encsP d, u.oneCell' = true := by
  intro u hu
  simp only [encsP, List.mem_flatMap] at hu
  obtain ⟨c, _, hc⟩ := hu
  simp [Pr.enc] at hc
  rcases hc with rfl | rfl | rfl <;> rfl
theorem PrAt.take {w : World} {p : Option Addr} {l : List Pr} (h : PrAt w p l) (k : Nat) : PrAt w p (l.take k) := fun hne => by
  obtain ⟨b, off, e, hc⟩ := h (fun e => hne (by rw [e]; simp))
  refine ⟨b, off, e, fun i hi => ?_⟩
  have hi2 : i < l.length := by rw [List.length_take] at hi; omega
  have e2 : (l.take k)[i]! = l[i]! := by rw [getElem!_pos (l.take k) i hi, getElem!_pos l i hi2]; simp
  rw [e2]
  exact hc i hi2
theorem PrAt.news {w : World} {p : Option Addr} {l : List Pr} (h : PrAt w p l) : ∀ ad, p = some ad → ∀ j u, (encsP l)[j]? = some u → w.cell? (ad.add j) = some u := by
  intro ad hp j u hj
  have hl := (List.getElem?_eq_some_iff.1 hj).1
  rw [encsP_length] at hl
  obtain ⟨b, off, e, hc⟩ := h (fun e => by rw [e] at hl; simp at hl)
  rw [hp] at e
  cases e
  have hadd : (⟨b, off, none⟩ : Addr).add j = ⟨b, off + j, none⟩ := by unfold Addr.add; split <;> simp_all
  rw [hadd, ← hj]
  obtain ⟨h0, h1, h2⟩ := hc (j / 3) (by omega)
  have : j % 3 = 0 ∨ j % 3 = 1 ∨ j % 3 = 2 := by omega
  have hlt : j / 3 < l.length := by omega
  rcases this with q | q | q
  · have := encsP_get l (j / 3) 0 hlt (by omega)
    rw [show j / 3 * 3 + 0 = j by omega] at this
    rw [this, show off + j = off + j / 3 * 3 by omega, h0]; rfl
  · have := encsP_get l (j / 3) 1 hlt (by omega)
    rw [show j / 3 * 3 + 1 = j by omega] at this
    rw [this, show off + j = off + j / 3 * 3 + 1 by omega, h1]; rfl
  · have := encsP_get l (j / 3) 2 hlt (by omega)
    rw [show j / 3 * 3 + 2 = j by omega] at this
    rw [this, show off + j = off + j / 3 * 3 + 2 by omega, h2]; rfl
theorem all_of_own {w : World} {base ab na ac : Nat} {ap : List Pr} (h : w.ownsRow base 28 3 (.slice (some ⟨ab, 0, none⟩) na ac) na (encsP ap)) : AllAt w ab ap ∧ na = ap.length := by
  have hl : na = ap.length := by have := h.1; rw [encsP_length] at this; omega
  refine ⟨fun k hk => ⟨?_, ?_, ?_⟩, hl⟩
  · exact (h.cellAt (k * 3) (by omega)).trans (encsP_get ap k 0 hk (by omega))
  · exact (h.cellAt (k * 3 + 1) (by omega)).trans (encsP_get ap k 1 hk (by omega))
  · exact (h.cellAt (k * 3 + 2) (by omega)).trans (encsP_get ap k 2 hk (by omega))
theorem run_makeMap29 (w : World) : (Instr.makeMap 29 none).run Ybad.prog w = .ok (.map (some w.heap.size)) (w.alloc (.map #[] 0)) := by
  simp [Instr.makeMap, Result.andThen]
theorem PrAt.below0 {B : Nat} {w w' : World} {p : Option Addr} {ps : List Pr} (h : PrAt w p ps) (hb : Below B w w') (hB : B = w.heap.size) : PrAt w' p ps := h.below (hB ▸ hb)

set_option maxRecDepth 100000 in
set_option maxHeartbeats 16000000 in
theorem drive_any (sh sl w8 : Nat) (st : Bool) (p1 p2 pp : Option Addr) (m1 c1 m2 c2 n pc : Nat) (l1 l2 : List Pr) (pl : List Pb) (w0 : World)
    (q1 : sh < M) (q2 : sl < M) (q3 : w8 ≤ 255) (e1 : m1 = l1.length) (e2 : m2 = l2.length) (e3 : n = pl.length) (h1 : PrAt w0 p1 l1) (h2 : PrAt w0 p2 l2) (h3 : PbAt w0 pp pl)
    (ok1 : ∀ p ∈ l1, p.hi < M ∧ p.lo < M) (ok2 : ∀ p ∈ l2, p.hi < M ∧ p.lo < M) (ok3 : ∀ p ∈ pl, p.hi < M ∧ p.lo < M ∧ p.d ≤ 255) (hO : One w0)
    (b1 : m1 ≤ c1 ∧ c1 ≤ 9223372036854775807) (b2 : m2 ≤ c2 ∧ c2 ≤ 9223372036854775807) (b3 : n ≤ pc ∧ pc ≤ 9223372036854775807) (z1 : p1 = none → m1 = 0 ∧ c1 = 0) (z2 : p2 = none → m2 = 0 ∧ c2 = 0) :
    Calls Ybad.prog 3 #[.int .u64 (sh : Int), .int .u64 (sl : Int), .bool st, .int .u8 (w8 : Int), .slice p1 m1 c1, .slice p2 m2 c2, .slice pp n pc] w0 fun e w' => e = .returned (.bool true) ∧ Below w0.heap.size w0 w' := by
  by_cases hbig : 1024 < n
  · have hd : decide ((1024 : Int) < (n : Int)) = true := by simp; omega
    go_enter Ybad.func3, Ybad.ntmps3
    go_wp2
    go_ret
    exact ⟨rfl, Below.refl _ _⟩
  · have hd : decide ((1024 : Int) < (n : Int)) = false := by simp; omega
    obtain ⟨i0, hii, hiz, his, hib⟩ := info_parts info28
    obtain ⟨n1, hn1⟩ : ∃ n1, n1 = min m1 15 := ⟨_, rfl⟩
    obtain ⟨n2, hn2⟩ : ∃ n2, n2 = min m2 15 := ⟨_, rfl⟩
    have r1 : min (m1 : Int) 15 = (n1 : Int) := by omega
    have r2 : min (m2 : Int) 15 = (n2 : Int) := by omega
    have r1' : (if (15 : Int) < (m1 : Int) then 15 else (m1 : Int)) = (n1 : Int) := by split <;> omega
    have r2' : (if (15 : Int) < (m2 : Int) then 15 else (m2 : Int)) = (n2 : Int) := by split <;> omega
    have t1 : (n1 : Int) ≤ (c1 : Int) := by omega
    have t2 : (n2 : Int) ≤ (c2 : Int) := by omega
    have u1 : n1 ≤ 15 := by omega
    have u2 : n2 ≤ 15 := by omega
    have HS : Hid (n1 = (l1.take n1).length ∧ n2 = (l2.take n2).length ∧ n1 ≤ c1 ∧ n2 ≤ c2) := hid ⟨by rw [List.length_take]; omega, by rw [List.length_take]; omega, by omega, by omega⟩
    have HZ : Hid ((p1 = none → n1 = 0 ∧ c1 = 0) ∧ (p2 = none → n2 = 0 ∧ c2 = 0)) := hid ⟨fun h => by have := z1 h; omega, fun h => by have := z2 h; omega⟩
    obtain ⟨wd, hwd⟩ : ∃ wd, wd = 1 + w8 % 8 := ⟨_, rfl⟩
    have s1 : (w8 : Int).tmod 8 = ((w8 % 8 : Nat) : Int) := rfl
    have s2 : (1 : Int) + ((w8 % 8 : Nat) : Int) = (wd : Int) := by omega
    have hwd8 : wd ≤ 8 := by omega
    have HE := hid (And.intro e1 (And.intro e2 e3))
    have HP := hid (And.intro h1 (And.intro h2 (And.intro h3 hO)))
    have HOK := hid (And.intro ok1 (And.intro ok2 ok3))
    have HN := hid (And.intro hn1 hn2)
    clear hn1 hn2 hwd z1 z2 e1 e2 e3 h1 h2 h3 hO ok1 ok2 ok3
    generalize ((w8 % 8 : Nat) : Int) = wm at *
    go_enter Ybad.func3, Ybad.ntmps3
    go_upto_region 7 with fail
    obtain ⟨wS, hwS⟩ : ∃ wS, wS = w0.alloc (.cells #[.int .u64 (sh : Int), .int .u64 (sl : Int)] 26) := ⟨_, rfl⟩
    rw [← hwS]
    have HBS : Hid (Below w0.heap.size w0 wS) := hid (hwS ▸ (Below.refl _ _).alloc (Nat.le_refl _) _)
    have HXS : Hid (Bx w0.heap.size 26 #[.int .u64 (sh : Int), .int .u64 (sl : Int)] wS) := hid (by rw [hwS]; exact heap_alloc_new _ _)
    have HZS : Hid (wS.heap.size = w0.heap.size + 1) := hid (by simp [hwS])
    clear hwS
    obtain ⟨na, hna⟩ : ∃ na, na = 1 + n1 + n2 := ⟨_, rfl⟩
    have g1 : (1 : Int) + (n1 : Int) + (n2 : Int) = (na : Int) := by omega
    have HNA := hid hna
    clear hna
    have hna31 : na ≤ 31 := by have := HNA.out; omega
    go_upto_region 8 with (first | (at_make; go_must (refine wpList_make_own _ rfl (.const (.int .i64 0)) (.tmp 66) 23 rfl wS.heap.size 28 i0 z28 3 Ybad.underlying23 hii hiz his .i64 .i64 _ na rfl rfl (by omega) (by rw [hib]; omega) (by unfold maxLen; omega) (Nat.le_refl _) ?_); go_must (intro w1 ho1 hg1); go_must (have HB1 : Hid (Below wS.heap.size wS w1) := hid ((Below.refl _ _).grown hg1 (Nat.le_refl _) (fun k hk => by cases hk))); have HO1 := hid ho1; clear ho1 hg1) | fail)
    have HZ1 := hid HB1.out.size
    go_upto_region 9 with (first | (at_builtin; go_must (refine wpList_append_own _ rfl _ _ 23 rfl wS.heap.size 28 i0 z28 3 24 Ybad.underlying23 hii hiz his hib rfl (by decide) _ 0 [] rfl (HO1.out.alloc _) ⟨w1.heap.size, 0, none⟩ 1 1 [.int .u64 (sh : Int), .int .u64 (sl : Int), .bool st] rfl rfl (news3 _ _ _ _ _ _ rfl) (fun u hu => by simp at hu; rcases hu with rfl | rfl | rfl <;> rfl) (by unfold maxLen; omega) (by omega) (by simp; have := HZ1.out; omega) ?_); go_must (intro v1 w2 ho2 hg2 hnil2); go_must (have HB2 : Hid (Below wS.heap.size wS w2) := hid ((HB1.out.alloc HZ1.out _).grown hg2 (by simp; have := HZ1.out; omega) (fun j hj => (HO1.out.lt j hj).1))); have HO2 : Hid (w2.ownsRow wS.heap.size 28 3 v1 1 (encsP [⟨sh, sl, st⟩])) := hid ho2; clear ho2 hg2 hnil2) | fail)
    obtain ⟨ga, ca, rfl, _⟩ := own_some HO2.out (by omega)
    have HQ1 : Hid (PrAt w2 p1 (l1.take n1)) := hid ((HP.out.1.below ((HBS.out.trans (HB2.out.mono HBS.out.size)))).take n1)
    have HZ2 := hid HB2.out.size
    go_upto_region 10 with (first | (at_builtin; go_must (refine wpList_append_own_any _ rfl _ _ 23 rfl wS.heap.size 28 i0 z28 3 24 Ybad.underlying23 hii hiz his hib rfl (by decide) _ 1 (encsP [⟨sh, sl, st⟩]) rfl HO2.out p1 n1 c1 (encsP (l1.take n1)) rfl (by rw [encsP_length, ← HS.out.1]) HZ.out.1 HQ1.out.news (encsP_one _) (by unfold maxLen; omega) (by omega) HZ2.out ?_); go_must (intro v2 w3 ho3 hg3 hnil3); go_must (have HB3 : Hid (Below wS.heap.size wS w3) := hid (HB2.out.grown hg3 HZ2.out (fun j hj => (HO2.out.lt j hj).1))); have HO3 : Hid (w3.ownsRow wS.heap.size 28 3 v2 (1 + n1) (encsP (([⟨sh, sl, st⟩] : List Pr) ++ l1.take n1))) := hid (by rw [encsP_append]; exact ho3); clear ho3 hg3 hnil3) | fail)
    obtain ⟨nx, hnx⟩ : ∃ nx, nx = 1 + n1 := ⟨_, rfl⟩
    rw [← hnx] at HO3
    have HNX := hid hnx
    have hnx16 : nx ≤ 16 := by omega
    have hnx0 : 0 < nx := by omega
    clear hnx
    obtain ⟨gb, cb, rfl, _⟩ := own_some HO3.out hnx0
    have HQ2 : Hid (PrAt w3 p2 (l2.take n2)) := hid ((HP.out.2.1.below ((HBS.out.trans (HB3.out.mono HBS.out.size)))).take n2)
    have HZ3 := hid HB3.out.size
    go_upto_region 11 with (first | (at_builtin; go_must (refine wpList_append_own_any _ rfl _ _ 23 rfl wS.heap.size 28 i0 z28 3 24 Ybad.underlying23 hii hiz his hib rfl (by decide) _ nx (encsP (([⟨sh, sl, st⟩] : List Pr) ++ l1.take n1)) rfl HO3.out p2 n2 c2 (encsP (l2.take n2)) rfl (by rw [encsP_length, ← HS.out.2.1]) HZ.out.2 HQ2.out.news (encsP_one _) (by unfold maxLen; omega) (by omega) HZ3.out ?_); go_must (intro v3 w4 ho4 hg4 hnil4); go_must (have HB4 : Hid (Below wS.heap.size wS w4) := hid (HB3.out.grown hg4 HZ3.out (fun j hj => (HO3.out.lt j hj).1))); have HO4 : Hid (w4.ownsRow wS.heap.size 28 3 v3 (nx + n2) (encsP (([⟨sh, sl, st⟩] : List Pr) ++ l1.take n1 ++ l2.take n2))) := hid (by rw [encsP_append _ (l2.take n2)]; exact ho4); clear ho4 hg4 hnil4) | fail)
    rw [show nx + n2 = na by have := HNA.out; have := HNX.out; omega] at HO4
    obtain ⟨ab, ac, rfl, hab, _⟩ := own_some HO4.out (by have := HNA.out; omega)
    have HAP := hid (all_of_own HO4.out)
    have habl : Hid (ab < w4.heap.size ∧ wS.heap.size ≤ ab) := hid ⟨(HO4.out.lt ab rfl).2, hab⟩
    generalize hap : (([⟨sh, sl, st⟩] : List Pr) ++ l1.take n1 ++ l2.take n2 : List Pr) = ap at *
    have HAPE := hid hap
    clear hap hab
    have hmm := run_makeMap29 w4
    go_upto_block 0 with fail
    obtain ⟨w5, hw5⟩ : ∃ w5, w5 = w4.alloc (.map #[] 0) := ⟨_, rfl⟩
    obtain ⟨mb, hmb⟩ : ∃ mb, mb = w4.heap.size := ⟨_, rfl⟩
    rw [← hw5, ← hmb]
    have HM5 : Hid (Mp w5 mb []) := hid (by rw [hw5, hmb]; exact Mp.new w4)
    have hb45 : Below w4.heap.size w4 w5 := hw5 ▸ (Below.refl _ _).alloc (Nat.le_refl _) _
    have HB5 : Hid (Below wS.heap.size wS w5) := hid (HB4.out.trans (hb45.mono HB4.out.size))
    have HA5 : Hid (AllAt w5 ab ap) := hid (HAP.out.1.below hb45)
    have HMB : Hid (ab < mb ∧ wS.heap.size ≤ mb ∧ ab < w5.heap.size) := hid ⟨by rw [hmb]; exact habl.out.1, by rw [hmb]; exact HB4.out.size, Nat.lt_of_lt_of_le habl.out.1 hb45.size⟩
    clear hw5 hmb hb45 hmm
    go_cut [] (fun v => ∃ L, Hid (Mp v mb L) ∧ Hid (Only mb w5 v))
    case first =>
      go_wp2_with fail
      go_loopw [84] (fun s84 v => ∃ (k : Nat) (L : List (Nat × Nat)), s84 = .int .i64 (k : Int) ∧ k ≤ na ∧ Hid (Mp v mb L) ∧ Hid (Only mb w5 v)) (fun s84 _ => na - (intOf s84).toNat)
      case atStart => exact ⟨0, [], rfl, Nat.zero_le _, HM5, hid (Only.refl _ _)⟩
      case round =>
        obtain ⟨k, L, rfl, hkn, HMv, HOv⟩ := hrel
        by_cases hlt : k < na
        · have hdl : decide ((k : Int) < (na : Int)) = true := by simp; omega
          have hdl2 : (k : Int) < (na : Int) := by omega
          obtain ⟨f0, f1, f2⟩ : wr.cell? ⟨ab, k * 3, none⟩ = some (.int .u64 (ap[k]!.hi : Int)) ∧ wr.cell? ⟨ab, k * 3 + 1, none⟩ = some (.int .u64 (ap[k]!.lo : Int)) ∧ wr.cell? ⟨ab, k * 3 + 2, none⟩ = some (.bool ap[k]!.st) := by
            have hk := HA5.out k (by rw [← HAP.out.2]; exact hlt)
            have l := HMB.out.2.2
            have ne : ¬ ab = mb := by have := HMB.out; omega
            exact ⟨(HOv.out.cell l ne).trans hk.1, (HOv.out.cell l ne).trans hk.2.1, (HOv.out.cell l ne).trans hk.2.2⟩
          obtain ⟨q, hq⟩ : ∃ q, ap[k]! = q := ⟨_, rfl⟩
          rw [hq] at f0 f1 f2
          clear hq
          obtain ⟨ih, il, ist⟩ := q
          dsimp only at f0 f1 f2
          obtain ⟨wa, hwa⟩ : ∃ wa, wa = wr.alloc (.cells #[.int .u64 (ih : Int), .int .u64 (il : Int), .bool ist] 28) := ⟨_, rfl⟩
          have hba : Below wr.heap.size wr wa := hwa ▸ (Below.refl _ _).alloc (Nat.le_refl _) _
          have HMa := hid (HMv.out.below hba)
          have HOa : Hid (Only mb w5 wa) := hid (HOv.out.trans (Only.of_below hba))
          obtain ⟨wu, L', hu, hmu, hou, _⟩ := HMa.out.update (ih, il)
          dsimp only [kv] at hu
          have HMU := hid hmu
          have HOU := hid hou
          have x0 : wa.cell? ⟨wr.heap.size, 0, none⟩ = some (.int .u64 (ih : Int)) := by simp [hwa]
          have x1 : wa.cell? ⟨wr.heap.size, 1, none⟩ = some (.int .u64 (il : Int)) := by simp [hwa]
          have x2 : wa.cell? ⟨wr.heap.size, 2, none⟩ = some (.bool ist) := by simp [hwa]
          clear hba hmu hou
          go_upto_region 15 with fail
          rw [← hwa]
          clear hwa f0 f1 f2
          cases ist with
          | true =>
            go_wp2
            refine ⟨⟨k + 1, L', congrArg _ (by omega), by omega, HMU, hid (HOa.out.trans HOU.out)⟩, ?_⟩
            show na - ((k : Int) + 1).toNat < na - ((k : Int)).toNat
            omega
          | false =>
            go_wp2
            refine ⟨⟨k + 1, L, congrArg _ (by omega), by omega, HMa, HOa⟩, ?_⟩
            show na - ((k : Int) + 1).toNat < na - ((k : Int)).toNat
            omega
        · have hdl : decide ((k : Int) < (na : Int)) = false := by simp; omega
          go_wp2
          go_meet
          exact ⟨L, HMv, HOv⟩
    case rest =>
      obtain ⟨L, HMv, HOv⟩ := hcut
      rename ∀ (a : Act) (w : World), Code.wp Ybad.prog _ _ a w → _ => hKK
      refine hKK _ _ ?_
      have hzz := HZS.out
      have hmb := HMB.out
      have hb05 : Below w0.heap.size w0 w5 := HBS.out.trans (HB5.out.mono HBS.out.size)
      have hb0 : Below w0.heap.size w0 wc := HOv.out.below hb05 hb05.size (by omega)
      have hX : Bx w0.heap.size 26 #[.int .u64 (sh : Int), .int .u64 (sl : Int)] wc := (HOv.out.block _ (HXS.out.read HB5.out).lt (by omega)).trans (HXS.out.read HB5.out)
      have hA : AllAt wc ab ap := fun k hk => by
        have h := HA5.out k hk
        have l := HMB.out.2.2
        have ne : ¬ ab = mb := by omega
        exact ⟨(HOv.out.cell l ne).trans h.1, (HOv.out.cell l ne).trans h.2.1, (HOv.out.cell l ne).trans h.2.2⟩
      have hz5 := HOv.out.size
      refine drv_rts (ps1 := l1.take n1) (ps2 := l2.take n2) (pl := pl) (ap := ap) hb0 (lt_of_cell HP.out.2.2.2.hi) q1 q2 hwd8 HE.out.2.2 (by omega) HOK.out.2.2 HS.out.1 HS.out.2.1 ⟨u1, HS.out.2.2.1, b1.2⟩ ⟨u2, HS.out.2.2.2, b2.2⟩ (fun p hp => HOK.out.1 p (List.mem_of_mem_take hp)) (fun p hp => HOK.out.2.1 p (List.mem_of_mem_take hp)) HAP.out.2 ?_ hX (HP.out.2.2.2.below hb0) HMv.out hA (by omega) ((HP.out.1.below hb0).take n1) ((HP.out.2.1.below hb0).take n2) (HP.out.2.2.1.below hb0)
      rw [← HAPE.out]
      simp
end Go.Proofs.YbulkcntwDoor
