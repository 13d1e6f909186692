import Derived.Test.YbulkcntiNew
import Derived.Laws.BytesArg
import Derived.Laws.AppendOwn
import Derived.OwnWalk
namespace Go.Proofs.Ybulkcnti
open Go.RowKit
set_option linter.unusedVariables false
set_option linter.unusedSimpArgs false

theorem info5 : (Yba.prog.info? 5).map (fun i => (i.zero, i.size, i.bytes)) = some (some (.int .u8 0), 1, 1) := by kernel_rfl

theorem getD_of {l : List Int} {j : Nat} (h : j < l.length) : l.getD j 0 = l[j] := by simp [h]

/-- A slice's row that the call owns, as bytes at a block. -/
theorem bufAt_of_owns {w : World} {base : Nat} {v : Value} {n : Nat} {l : List Int} (h : w.ownsRow base 5 1 v n (l.map (Value.int .u8))) (hn : 0 < n) (hr : ∀ x ∈ l, 0 ≤ x ∧ x ≤ 255) :
    ∃ g cap, v = .slice (some ⟨g, 0, none⟩) n cap ∧ base ≤ g ∧ n ≤ cap ∧ cap ≤ 9223372036854775807 ∧ bufAt w g l := by
  obtain ⟨h1, h2⟩ := h
  rcases h2 with ⟨_, h2⟩ | ⟨g, cap, cur, hv, hb, hg, hc, hm, hs, ht⟩
  · omega
  · refine ⟨g, cap, hv, hb, hc, by unfold maxLen at hm; omega, ⟨cur, 5, hg⟩, fun i hi => ?_, hr⟩
    unfold World.cell?
    simp only [hg]
    have e1 : (cur.toList.take (n * 1))[i]? = some (.int .u8 l[i]) := by rw [ht]; simp [hi]
    have hi2 : i < n := by simp at h1; omega
    rw [List.getElem?_take] at e1
    rw [if_pos (by omega)] at e1
    simpa using e1

theorem Clone_any (b n cap : Nat) (l : List Int) (w : World) (hp : Pg w b n cap l) :
    Calls Yba.prog 7 #[.slice (some ⟨b, 0, none⟩) n cap] w fun e w' => ∃ g c, e = .returned (.slice (some ⟨g, 0, none⟩) n c) ∧ w.heap.size ≤ g ∧ Pg w' g n c l ∧ Below w.heap.size w w' := by
  have hn1 := hp.big
  have hn2 := hp.small
  have hlen := hp.len
  obtain ⟨i0, hi, hz0, hz1, hz2⟩ := info_parts info5
  have hown0 : (w.alloc (.cells #[] 5)).ownsRow w.heap.size 5 1 (.slice (some ⟨w.heap.size, 0, none⟩) 0 0) 0 [] :=
    ⟨rfl, .inr ⟨w.heap.size, 0, #[], rfl, Nat.le_refl _, by show (w.heap.push _)[w.heap.size]? = _; simp, Nat.le_refl _, by unfold maxLen; omega, rfl, rfl⟩⟩
  have he : ∀ w : World, (binOp .eql 23 (.slice (some ⟨b, 0, none⟩) n cap) (.slice none 0 0)).run Yba.prog w = .ok (.bool false) w := fun _ => rfl
  have HL := hid hlen
  have HP := hid hp
  clear hlen hp
  go_enter Yba.func7, Yba.ntmps7
  go_wp2_with (first
    | (at_builtin; refine wpList_append_own _ rfl (.tmp 5) (.tmp 6) 23 rfl w.heap.size 5 i0 (.int .u8 0) 1 1 Yba.underlying23 hi hz0 hz1 hz2 rfl (by decide) _ _ _ rfl hown0 ⟨b, 0, none⟩ n cap (l.map (Value.int .u8)) rfl (by simp [HL.out]) ?c1 (ints_oneCell .u8 l) (by unfold maxLen; omega) (by omega) (by simp) ?_))
  case c1 =>
    intro j u hu
    have hj : j < l.length := by
      have := (List.getElem?_eq_some_iff.1 hu).1
      simpa using this
    have hadd : (⟨b, 0, none⟩ : Addr).add j = ⟨b, j, none⟩ := by unfold Addr.add; split <;> simp_all
    rw [hadd, ((Below.refl w.heap.size w).alloc (Nat.le_refl _) _).cell (p := ⟨b, j, none⟩) HP.out.buf.ic.lt, HP.out.buf.cell j hj]
    rw [← hu]
    simp [hj]
  intro v' w1 hown' hgrow hnil
  obtain ⟨g, c, rfl, hg, hc1, hc2, hb⟩ := bufAt_of_owns (l := l) (n := n) (by simpa using hown') (by omega) HP.out.buf.rng
  go_wp2
  go_ret
  exact ⟨g, c, rfl, hg, ⟨hb, HP.out.len, hc1, hc2, HP.out.big, HP.out.small⟩, ((Below.refl _ _).alloc (Nat.le_refl _) _).grown hgrow (by simp) (fun k hk => by simp [Value.ownBlock] at hk; omega)⟩

theorem Equal_any (b c n cap cap' : Nat) (l : List Int) (w : World) (h1 : bufAt w b l) (h2 : bufAt w c l) (hn : n = l.length) :
    Calls Yba.prog 9 #[.slice (some ⟨b, 0, none⟩) n cap, .slice (some ⟨c, 0, none⟩) n cap'] w fun e w' => e = .returned (.bool true) ∧ w' = w := by
  have g1 := run_convert_bytes_arg (P := Yba.prog) w 23 5 Yba.underlying23 Yba.underlying5 b 0 n cap l hn.symm (fun i hi => by rw [Nat.zero_add, h1.cell i (by omega), getD_of (by omega)]) 9 Yba.underlying9
  have g2 := run_convert_bytes_arg (P := Yba.prog) w 23 5 Yba.underlying23 Yba.underlying5 c 0 n cap' l hn.symm (fun i hi => by rw [Nat.zero_add, h2.cell i (by omega), getD_of (by omega)]) 9 Yba.underlying9
  generalize strOfNums l = s at *
  clear h1 h2 hn
  go_enter Yba.func9, Yba.ntmps9
  go_wp2
  go_ret
  exact ⟨by simp, rfl⟩
end Go.Proofs.Ybulkcnti
