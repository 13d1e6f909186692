import Derived.Test.YbulkcntwDoorCompact
import Derived.Test.YbulkcntwDoorOwn
namespace Go.Proofs.YbulkcntwDoor
open Go.RowKit Go.Sort
set_option linter.unusedVariables false
set_option linter.unusedSimpArgs false

/-- A peer of the law's. -/
structure Pr where
  hi : Nat
  lo : Nat
  st : Bool
instance : Inhabited Pr := ⟨⟨0, 0, false⟩⟩
abbrev Pr.enc (p : Pr) : List Value := [.int .u64 (p.hi : Int), .int .u64 (p.lo : Int), .bool p.st]
/-- From p on lie the peers ps. -/
def PrAt (w : World) (p : Option Addr) (ps : List Pr) : Prop := ps ≠ [] → ∃ b off, p = some ⟨b, off, none⟩ ∧ ∀ k, k < ps.length → w.cell? ⟨b, off + k * 3, none⟩ = some (.int .u64 (ps[k]!.hi : Int)) ∧ w.cell? ⟨b, off + k * 3 + 1, none⟩ = some (.int .u64 (ps[k]!.lo : Int)) ∧ w.cell? ⟨b, off + k * 3 + 2, none⟩ = some (.bool ps[k]!.st)
theorem PrAt.below {w w' : World} {p : Option Addr} {ps : List Pr} (h : PrAt w p ps) (hb : Below w.heap.size w w') : PrAt w' p ps := fun hne => by
  obtain ⟨b, off, e, hc⟩ := h hne
  refine ⟨b, off, e, fun k hk => ?_⟩
  obtain ⟨h1, h2, h3⟩ := hc k hk
  exact ⟨(hb.cell (p := ⟨b, off + k * 3, none⟩) (lt_of_cell h1)).trans h1, (hb.cell (p := ⟨b, off + k * 3 + 1, none⟩) (lt_of_cell h1)).trans h2, (hb.cell (p := ⟨b, off + k * 3 + 2, none⟩) (lt_of_cell h1)).trans h3⟩
theorem news3 (W : World) (a b c : Value) (t : TypeId) (q : Nat) (hq : q = W.heap.size) : ∀ j u, [a, b, c][j]? = some u → (W.alloc (.cells #[a, b, c] t)).cell? ((⟨q, 0, none⟩ : Addr).add j) = some u := by
  intro j u hj
  have hadd : (⟨q, 0, none⟩ : Addr).add j = ⟨q, j, none⟩ := by unfold Addr.add; split <;> simp_all
  rw [hadd, hq, cell_of_row _ _ _ _ _ _ (heap_alloc_new W _)]
  simpa using hj
/-- What the law's contacts are. -/
def Pr.c (p : Pr) : C := ⟨p.hi, p.lo, ⟨#[97]⟩⟩

set_option maxHeartbeats 1000000 in
theorem contacts_any (p : Option Addr) (n cap : Nat) (ps : List Pr) (w : World) (hn : n = ps.length) (hp : PrAt w p ps) (h15 : n ≤ 100) (hc : n ≤ cap) (hc2 : cap ≤ 9223372036854775807) :
    Calls Ybad.prog 5 #[.slice p n cap] w fun e w' => ∃ g c', e = .returned (.slice (some ⟨g, 0, none⟩) n c') ∧ w.heap.size ≤ g ∧ n ≤ c' ∧ c' ≤ 9223372036854775807 ∧ Row g (ps.map Pr.c) w' ∧ Below w.heap.size w w' := by
  obtain ⟨i0, hii, hiz, his, hib⟩ := info_parts info43
  have HN := hid hn
  have HP := hid hp
  clear hn hp
  go_enter Ybad.func5, Ybad.ntmps5
  go_wp2_with (first | (at_make; go_must (refine wpList_make_own _ rfl (.const (.int .i64 0)) (.tmp 7) 31 rfl w.heap.size 43 i0 z43 3 Ybad.underlying31 hii hiz his .i64 .i64 _ n rfl rfl rfl (by rw [hib]; omega) (by unfold maxLen; omega) (Nat.le_refl _) ?_); go_must (intro w1 ho1 hg1); go_must (have HB1 : Hid (Below w.heap.size w w1) := hid ((Below.refl _ _).grown hg1 (Nat.le_refl _) (fun k hk => by cases hk))); have HO1 := hid ho1; clear ho1 hg1) | fail)
  go_loopw [3, 11] (fun s3 s11 v => ∃ k : Nat, s11 = .int .i64 (k : Int) ∧ k ≤ n ∧ Hid (Below w.heap.size w v) ∧ Hid (s3 ≠ .slice none 0 0) ∧ Hid (v.ownsRow w.heap.size 43 3 s3 k (encs ((ps.take k).map Pr.c)))) (fun s3 s11 _ => n - (intOf s11).toNat)
  case atStart => exact ⟨0, rfl, Nat.zero_le _, HB1, hid (by simp), HO1⟩
  case round =>
    obtain ⟨k, rfl, hkn, HB, HV, HO⟩ := hrel
    have HBS := hid HB.out.size
    by_cases hlt : k < n
    · have hdl : decide ((k : Int) < (n : Int)) = true := by simp; omega
      have hdl2 : (k : Int) < (n : Int) := by omega
      obtain ⟨b, off, rfl, hcell⟩ := (HP.out.below HB.out) (by intro e; have := HN.out; rw [e] at this; simp at this; omega)
      obtain ⟨f1, f2, f3⟩ := hcell k (by rw [← HN.out]; exact hlt)
      clear hcell
      obtain ⟨q, hq⟩ : ∃ q, ps[k]! = q := ⟨_, rfl⟩
      rw [hq] at f1 f2 f3
      have HT : Hid (encs ((ps.take (k + 1)).map Pr.c) = encs ((ps.take k).map Pr.c) ++ [.int .u64 (q.hi : Int), .int .u64 (q.lo : Int), .string ⟨#[97]⟩]) := hid (by
        have hkl : k < ps.length := by rw [← HN.out]; exact hlt
        rw [List.take_add_one, List.getElem?_eq_getElem hkl, List.map_append, encs_append, ← hq, getElem!_pos ps k hkl]
        rfl)
      clear hq
      obtain ⟨qh, ql, qs⟩ := q
      dsimp only at f1 f2 f3 HT
      go_wp2_with (first | (at_builtin; go_must (refine wpList_append_own _ rfl _ _ 31 rfl w.heap.size 43 i0 z43 3 32 Ybad.underlying31 hii hiz his hib rfl (by decide) _ k (encs ((ps.take k).map Pr.c)) rfl ((HO.out.alloc _).alloc _) ⟨wr.heap.size + 1, 0, none⟩ 1 1 [.int .u64 (qh : Int), .int .u64 (ql : Int), .string ⟨#[97]⟩] rfl rfl (news3 _ _ _ _ _ _ (by simp)) (fun u hu => by simp at hu; rcases hu with rfl | rfl | rfl <;> rfl) (by unfold maxLen; omega) (by omega) (by simp; have := HBS.out; omega) ?_); go_must (intro v' w3 ho3 hg3 hnil3)) | fail)
      refine ⟨⟨k + 1, congrArg _ (by omega), by omega, hid (((HB.out.alloc HBS.out _).alloc (by simp; have := HBS.out; omega) _).grown hg3 (by simp; have := HBS.out; omega) (fun k hk => (HO.out.lt k hk).1)), hid (fun e => HV.out (hnil3.1 e).1), hid (by rw [HT.out]; exact ho3)⟩, ?_⟩
      show n - ((k : Int) + 1).toNat < n - ((k : Int)).toNat
      omega
    · have hdl : decide ((k : Int) < (n : Int)) = false := by simp; omega
      have hkn2 : k = n := by omega
      subst hkn2
      have e1 : ps.take k = ps := by rw [HN.out, List.take_length]
      rw [e1] at HO
      rcases HO.out.2 with ⟨e, _⟩ | ⟨g, c', cur, rfl, _⟩
      · exact absurd e HV.out
      · have HF := hid (Row.of_own HO.out)
        go_wp2
        go_ret
        exact ⟨g, c', rfl, HF.out.2.2.1, HF.out.2.2.2.1, HF.out.2.2.2.2, HF.out.1, HB.out⟩
end Go.Proofs.YbulkcntwDoor
