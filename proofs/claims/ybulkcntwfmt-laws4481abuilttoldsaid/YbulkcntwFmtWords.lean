import Derived.Test.YbulkcntwFmtFacts
import Derived.Laws.RangeAny
import Derived.Below
import Derived.Deep.QuietTactic
import Derived.BigQuiet
import Derived.Deep.RegionHeld3
namespace Go.Proofs.YbulkcntwFmt
open Go.RowKit
set_option linter.unusedVariables false
set_option linter.unusedSimpArgs false

theorem hid {p : Prop} (h : p) : Hid p := h

/-- A lower-case ASCII letter or an ASCII digit. -/
def good (c : Nat) : Prop := (97 ≤ c ∧ c ≤ 122) ∨ (48 ≤ c ∧ c ≤ 57)
/-- A good keyword. -/
def okS (s : ByteArray) : Prop := s.size ≠ 0 ∧ ∀ i (h : i < s.size), good (s[i]'h).toNat

theorem ok_not_empty : ¬ okS ⟨#[]⟩ := fun h => h.1 rfl
theorem size_ne {s : ByteArray} (h : s ≠ ⟨#[]⟩) : s.size ≠ 0 := by
  intro h0
  apply h
  obtain ⟨d⟩ := s
  have : d.size = 0 := h0
  rw [Array.eq_empty_of_size_eq_zero this]

theorem emp {s : ByteArray} (h : s ≠ ⟨#[]⟩) : s.toList.isEmpty = false := by
  have h1 := size_ne h
  rw [ByteArray.toList_eq]
  cases hl : s.data.toList with
  | nil =>
    exfalso
    apply h1
    show s.data.size = 0
    rw [← Array.length_toList, hl]; rfl
  | cons a l => rfl

theorem ranges (c : Nat) : c < 48 ∨ (48 ≤ c ∧ c ≤ 57) ∨ (57 < c ∧ c < 97) ∨ (97 ≤ c ∧ c ≤ 122) ∨ 122 < c := by omega

set_option maxRecDepth 100000 in
set_option maxHeartbeats 2000000 in
theorem ok_any (s : ByteArray) (w : World) (hsz : s.size ≤ 9223372036854775807) :
    Calls Ybaf.prog 9 #[.string s] w fun e w' => (∃ b, e = .returned (.bool b) ∧ (b = true ↔ okS s)) ∧ w' = w := by
  by_cases h0 : s = ⟨#[]⟩
  · subst h0
    go_enter Ybaf.func9, Ybaf.ntmps9
    go_wp2
    go_ret
    exact ⟨⟨_, rfl, by simp [ok_not_empty]⟩, rfl⟩
  · have hs0 := size_ne h0
    have hemp := emp h0
    go_enter Ybaf.func9, Ybaf.ntmps9
    go_wp2_with fail
    go_loopw [3] (fun s3 v => ∃ i : Nat, s3 = .int .i64 (i : Int) ∧ i ≤ s.size ∧ v = w ∧ ∀ j (h : j < s.size), j < i → good (s[j]'h).toNat) (fun s3 _ => s.size - (intOf s3).toNat)
    case atStart => exact ⟨0, rfl, Nat.zero_le _, rfl, fun j h1 h2 => by omega⟩
    case round =>
      obtain ⟨i, rfl, hi, rfl, hg⟩ := hrel
      have HG := hid hg
      clear hg
      by_cases hlt : i < s.size
      · have hdl : decide ((i : Int) < (s.size : Int)) = true := by simp; omega
        obtain ⟨c, hc⟩ : ∃ c, c = (s[i]'hlt).toNat := ⟨_, rfl⟩
        have hix : ∀ t, Ybaf.prog.underlying t = some .string → (Instr.index t (.string s) (.int .i64 (i : Int))).run Ybaf.prog wr = .ok (.int .u8 (c : Int)) wr := by
          intro t ht
          rw [run_index_string wr t s .i64 i ht, hc, dif_pos ⟨by omega, by omega⟩]
          rfl
        have hcg : good c ↔ good (s[i]'hlt).toNat := by rw [hc]
        have HCG := hid hcg
        have hx := hix 9 Ybaf.underlying9
        clear hix hcg hc
        rcases ranges c with hr | hr | hr | hr | hr
        · have d1 : decide ((97 : Int) ≤ (c : Int)) = false := by simp; omega
          have d2 : decide ((48 : Int) ≤ (c : Int)) = false := by simp; omega
          go_wp2
          go_ret
          exact ⟨⟨_, rfl, by simp; intro h; have h1 := HCG.out.2 (h.2 i hlt); unfold good at h1; omega⟩, rfl⟩
        · have d1 : decide ((97 : Int) ≤ (c : Int)) = false := by simp; omega
          have d2 : decide ((48 : Int) ≤ (c : Int)) = true := by simp; omega
          have d3 : decide ((c : Int) ≤ 57) = true := by simp; omega
          go_wp2
          refine ⟨⟨i + 1, congrArg _ (by omega), by omega, by trivial, fun j h1 h2 => ?_⟩, ?_⟩
          · rcases Nat.lt_or_ge j i with h3 | h3
            · exact HG.out j h1 h3
            · have : j = i := by omega
              subst this
              exact HCG.out.1 (by unfold good; omega)
          · show s.size - ((i : Int) + 1).toNat < s.size - ((i : Int)).toNat
            omega
        · have d1 : decide ((97 : Int) ≤ (c : Int)) = false := by simp; omega
          have d2 : decide ((48 : Int) ≤ (c : Int)) = true := by simp; omega
          have d3 : decide ((c : Int) ≤ 57) = false := by simp; omega
          go_wp2
          go_ret
          exact ⟨⟨_, rfl, by simp; intro h; have h1 := HCG.out.2 (h.2 i hlt); unfold good at h1; omega⟩, rfl⟩
        · have d1 : decide ((97 : Int) ≤ (c : Int)) = true := by simp; omega
          have d2 : decide ((c : Int) ≤ 122) = true := by simp; omega
          go_wp2
          refine ⟨⟨i + 1, congrArg _ (by omega), by omega, by trivial, fun j h1 h2 => ?_⟩, ?_⟩
          · rcases Nat.lt_or_ge j i with h3 | h3
            · exact HG.out j h1 h3
            · have : j = i := by omega
              subst this
              exact HCG.out.1 (by unfold good; omega)
          · show s.size - ((i : Int) + 1).toNat < s.size - ((i : Int)).toNat
            omega
        · have d1 : decide ((97 : Int) ≤ (c : Int)) = true := by simp; omega
          have d2 : decide ((c : Int) ≤ 122) = false := by simp; omega
          have d3 : decide ((48 : Int) ≤ (c : Int)) = true := by simp; omega
          have d4 : decide ((c : Int) ≤ 57) = false := by simp; omega
          go_wp2
          go_ret
          exact ⟨⟨_, rfl, by simp; intro h; have h1 := HCG.out.2 (h.2 i hlt); unfold good at h1; omega⟩, rfl⟩
      · have hdl : decide ((i : Int) < (s.size : Int)) = false := by simp; omega
        go_wp2
        go_ret
        exact ⟨⟨_, rfl, by simp; exact ⟨hs0, fun j h => HG.out j h (by omega)⟩⟩, rfl⟩

/-! ### checkKeywords' own test of a rune -/
set_option maxHeartbeats 1000000 in
theorem bad_good (c : Nat) (w : World) (hg : good c) : Calls Ybaf.prog 15 #[.int .i32 (c : Int)] w fun e w' => e = .returned (.bool false) ∧ w' = w := by
  unfold good at hg
  rcases hg with hr | hr
  · have d1 : decide ((c : Int) < 97) = false := by simp; omega
    have d2 : decide ((122 : Int) < (c : Int)) = false := by simp; omega
    go_enter Ybaf.func15, Ybaf.ntmps15
    go_wp2
    go_ret
    exact ⟨rfl, rfl⟩
  · have d1 : decide ((c : Int) < 97) = true := by simp; omega
    have d3 : decide ((c : Int) < 48) = false := by simp; omega
    have d4 : decide ((57 : Int) < (c : Int)) = false := by simp; omega
    go_enter Ybaf.func15, Ybaf.ntmps15
    go_wp2
    go_ret
    exact ⟨rfl, rfl⟩
set_option maxHeartbeats 1000000 in
theorem bad_bad (c : Nat) (w : World) (hg : ¬ good c) : Calls Ybaf.prog 15 #[.int .i32 (c : Int)] w fun e w' => e = .returned (.bool true) ∧ w' = w := by
  unfold good at hg
  rcases ranges c with hr | hr | hr | hr | hr
  · have d1 : decide ((c : Int) < 97) = true := by simp; omega
    have d3 : decide ((c : Int) < 48) = true := by simp; omega
    go_enter Ybaf.func15, Ybaf.ntmps15
    go_wp2
    go_ret
    exact ⟨rfl, rfl⟩
  · omega
  · have d1 : decide ((c : Int) < 97) = true := by simp; omega
    have d3 : decide ((c : Int) < 48) = false := by simp; omega
    have d4 : decide ((57 : Int) < (c : Int)) = true := by simp; omega
    go_enter Ybaf.func15, Ybaf.ntmps15
    go_wp2
    go_ret
    exact ⟨rfl, rfl⟩
  · omega
  · have d1 : decide ((c : Int) < 97) = false := by simp; omega
    have d2 : decide ((122 : Int) < (c : Int)) = true := by simp; omega
    have d3 : decide ((c : Int) < 48) = false := by simp; omega
    have d4 : decide ((57 : Int) < (c : Int)) = true := by simp; omega
    go_enter Ybaf.func15, Ybaf.ntmps15
    go_wp2
    go_ret
    exact ⟨rfl, rfl⟩

theorem dec (s : ByteArray) (pos : Nat) (h : pos < s.size) : (good (Utf8.decode s pos).1 ↔ good (s[pos]'h).toNat) ∧ (good (Utf8.decode s pos).1 → (Utf8.decode s pos).2 = 1) := by
  by_cases ha : (s[pos]'h).toNat < 128
  · rw [decode_ascii s pos h ha]
    exact ⟨Iff.rfl, fun _ => rfl⟩
  · have := (decode_high s pos h (by omega)).1
    unfold good
    omega

/-- Every byte is good. -/
def allG (s : ByteArray) : Prop := ∀ i (h : i < s.size), good (s[i]'h).toNat

set_option maxRecDepth 100000 in
set_option maxHeartbeats 2000000 in
theorem indexFunc_any (s : ByteArray) (w : World) (hsz : s.size ≤ 9223372036854775807) :
    Calls Ybaf.prog 19 #[.string s, .func (.func 15) #[] #[], .bool true] w fun e w' => ((∃ i : Nat, e = .returned (.int .i64 (i : Int)) ∧ ¬ allG s) ∨ (e = .returned (.int .i64 (-1)) ∧ allG s)) ∧ Below w.heap.size w w' := by
  go_enter Ybaf.func19, Ybaf.ntmps19
  go_wp2_with fail
  go_loopw [] (fun v => ∃ pos, v = w.iter s pos ∧ pos ≤ s.size ∧ ∀ j (h : j < s.size), j < pos → good (s[j]'h).toNat) (fun v => s.size - v.iterPos w.heap.size)
  case atStart => exact ⟨0, rfl, Nat.zero_le _, fun j h1 h2 => by omega⟩
  case round =>
    obtain ⟨pos, rfl, hp, hg⟩ := hrel
    have HG := hid hg
    clear hg
    have HB : Below w.heap.size w (w.iter s pos) := (Below.refl _ _).alloc (Nat.le_refl _) _
    by_cases hlt : pos < s.size
    · have hnx : ∀ ty, (Instr.next (.pointer (some ⟨w.heap.size, 0, none⟩)) true ty).run Ybaf.prog (w.iter s pos) = _ := fun ty => run_next_any w s pos ty hlt
      obtain ⟨h1, h2⟩ := dec s pos hlt
      have H1 := hid h1
      by_cases hgd : good (Utf8.decode s pos).1
      · have hw1 := h2 hgd
        rw [hw1] at hnx
        have HC := hid (fun W => bad_good (Utf8.decode s pos).1 W hgd)
        have HGD := hid hgd
        clear h1 h2 hgd hw1
        generalize (Utf8.decode s pos).1 = r at *
        go_wp2_with (first | (go_at_call 15; with_reducible (refine Calls.mono (HC.out _) ?_); rintro e w' ⟨rfl, rfl⟩))
        refine ⟨⟨pos + 1, rfl, by omega, fun j h1 h2 => ?_⟩, ?_⟩
        · rcases Nat.lt_or_ge j pos with h3 | h3
          · exact HG.out j h1 h3
          · have : j = pos := by omega
            subst this
            exact H1.out.1 HGD.out
        · rw [World.iterPos_iter, World.iterPos_iter]
          omega
      · have HC := hid (fun W => bad_bad (Utf8.decode s pos).1 W hgd)
        have HGD := hid hgd
        clear h1 h2 hgd
        have HB2 : Below w.heap.size w (w.iter s (pos + (Utf8.decode s pos).2)) := (Below.refl _ _).alloc (Nat.le_refl _) _
        generalize (Utf8.decode s pos).1 = r at *
        go_wp2_with (first | (go_at_call 15; with_reducible (refine Calls.mono (HC.out _) ?_); rintro e w' ⟨rfl, rfl⟩))
        go_ret
        exact ⟨Or.inl ⟨pos, rfl, fun h => HGD.out (H1.out.2 (h pos hlt))⟩, HB2⟩
    · have hnx : ∀ ty, (Instr.next (.pointer (some ⟨w.heap.size, 0, none⟩)) true ty).run Ybaf.prog (w.iter s pos) = _ := fun ty => run_next_end w s pos ty hlt
      go_wp2
      go_ret
      exact ⟨Or.inr ⟨rfl, fun j h => HG.out j h (by omega)⟩, HB⟩

theorem containsFunc_any (s : ByteArray) (w : World) (hsz : s.size ≤ 9223372036854775807) :
    Calls Ybaf.prog 14 #[.string s, .func (.func 15) #[] #[]] w fun e w' => ((e = .returned (.bool true) ∧ ¬ allG s) ∨ (e = .returned (.bool false) ∧ allG s)) ∧ Below w.heap.size w w' := by
  have H18 : ∀ W, Calls Ybaf.prog 18 #[.string s, .func (.func 15) #[] #[]] W fun e w' => ((∃ i : Nat, e = .returned (.int .i64 (i : Int)) ∧ ¬ allG s) ∨ (e = .returned (.int .i64 (-1)) ∧ allG s)) ∧ Below W.heap.size W w' := by
    intro W
    go_enter Ybaf.func18, Ybaf.ntmps18
    go_wp2_with (first | (go_at_call 19; with_reducible (refine Calls.mono (indexFunc_any s _ hsz) ?_); rintro e w' ⟨⟨i, rfl, hn⟩ | ⟨rfl, hn⟩, hb⟩))
    · go_ret
      exact ⟨Or.inl ⟨i, rfl, hn⟩, hb⟩
    · go_ret
      exact ⟨Or.inr ⟨rfl, hn⟩, hb⟩
  go_enter Ybaf.func14, Ybaf.ntmps14
  go_wp2_with (first | (go_at_call 18; with_reducible (refine Calls.mono (H18 _) ?_); rintro e w' ⟨⟨i, rfl, hn⟩ | ⟨rfl, hn⟩, hb⟩))
  · go_ret
    exact ⟨Or.inl ⟨rfl, hn⟩, hb⟩
  · go_ret
    exact ⟨Or.inr ⟨rfl, hn⟩, hb⟩

/-- n strings lie in a row of cells at block b, offset o on. -/
def strsAt (w : World) (A : Addr) (n : Nat) (ks : Nat → ByteArray) : Prop := ∀ i, i < n → w.cell? (A.add i) = some (.string (ks i)) ∧ (ks i).size ≤ 9223372036854775807

set_option maxRecDepth 100000 in
set_option maxHeartbeats 2000000 in
theorem allok_any (p : Option Addr) (n cap : Nat) (ks : Nat → ByteArray) (w : World) (hn : n ≤ 9223372036854775807) (h : 0 < n → ∃ A, p = some A ∧ strsAt w A n ks) :
    Calls Ybaf.prog 6 #[.slice p n cap] w fun e w' => ((e = .returned (.bool true) ∧ ∀ i, i < n → okS (ks i)) ∨ (e = .returned (.bool false) ∧ ¬ ∀ i, i < n → okS (ks i))) ∧ w' = w := by
  have HA := hid h
  clear h
  go_enter Ybaf.func6, Ybaf.ntmps6
  go_wp2_with fail
  go_loopw [3] (fun s3 v => ∃ i : Nat, s3 = .int .i64 (i : Int) ∧ i ≤ n ∧ v = w ∧ ∀ j, j < i → okS (ks j)) (fun s3 _ => n - (intOf s3).toNat)
  case atStart => exact ⟨0, rfl, Nat.zero_le _, rfl, fun j h => by omega⟩
  case round =>
    obtain ⟨i, rfl, hi, rfl, hg⟩ := hrel
    have HG := hid hg
    clear hg
    by_cases hlt : i < n
    · have hdl : decide ((i : Int) < (n : Int)) = true := by simp; omega
      obtain ⟨A, rfl, hst⟩ := HA.out (by omega)
      obtain ⟨hc, hz⟩ := hst i hlt
      have HOK := hid (ok_any (ks i) wr hz)
      clear hst
      go_wp2_with (first | (go_at_call 9; with_reducible (refine Calls.mono HOK.out ?_); rintro e w' ⟨⟨b, rfl, hb⟩, rfl⟩))
      · rename_i hbb
        go_ret
        refine ⟨Or.inr ⟨rfl, fun h => ?_⟩, rfl⟩
        rw [hb.2 (h i hlt)] at hbb
        cases hbb
      · rename_i hbb
        refine ⟨⟨i + 1, congrArg _ (by omega), by omega, by trivial, fun j h1 => ?_⟩, ?_⟩
        · rcases Nat.lt_or_ge j i with h3 | h3
          · exact HG.out j h3
          · have : j = i := by omega
            subst this
            exact hb.1 (by simpa using hbb)
        · show n - ((i : Int) + 1).toNat < n - ((i : Int)).toNat
          omega
    · have hdl : decide ((i : Int) < (n : Int)) = false := by simp; omega
      go_wp2
      go_ret
      exact ⟨Or.inl ⟨rfl, fun j h => HG.out j (by omega)⟩, rfl⟩
end Go.Proofs.YbulkcntwFmt
