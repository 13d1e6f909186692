import Derived.Test.YbulkcntwFmtWords
namespace Go.Proofs.YbulkcntwFmt
open Go.RowKit Go.Extern.Stop Go.Stop Go.Extern
set_option linter.unusedVariables false
set_option linter.unusedSimpArgs false

/-- What a call finds: the sentinel's variable, its text, and a tape that answers fmt by F. -/
structure Sen (F : Interp) (a : Addr) (st : ByteArray) (w : World) : Prop where
  h0 : 0 < w.heap.size
  ha : a.block < w.heap.size
  hF : F.answers w.tape
  hg : w.cell? ⟨0, 0, none⟩ = some (.iface 58 (.pointer (some a)))
  hs : w.cell? a = some (.string st)
theorem Sen.below {F : Interp} {a : Addr} {st : ByteArray} {w W : World} {B : Nat} (h : Sen F a st w) (hb : Below B w W) (hB : B = w.heap.size) : Sen F a st W := by
  subst hB
  have := hb.size
  exact ⟨by have := h.h0; omega, by have := h.ha; omega, by rw [hb.tape]; exact h.hF, (hb.cell (p := ⟨0, 0, none⟩) h.h0).trans h.hg, (hb.cell h.ha).trans h.hs⟩
theorem Sen.alloc {F : Interp} {a : Addr} {st : ByteArray} {w : World} (h : Sen F a st w) (o : Obj) : Sen F a st (w.alloc o) :=
  h.below ((Below.refl _ _).alloc (Nat.le_refl _) o) rfl

theorem add_block (A : Addr) (i : Nat) : (A.add i).block = A.block := by unfold Addr.add; split <;> rfl
theorem strsAt.below {w W : World} {A : Addr} {n B : Nat} {ks : Nat → ByteArray} (h : strsAt w A n ks) (hb : Below B w W) (hA : A.block < B) : strsAt W A n ks :=
  fun i hi => ⟨(hb.cell (p := A.add i) (by rw [add_block]; exact hA)).trans (h i hi).1, (h i hi).2⟩

theorem okS_iff {s : ByteArray} (h : s ≠ ⟨#[]⟩) : okS s ↔ allG s := ⟨fun h => h.2, fun k => ⟨size_ne h, k⟩⟩

theorem two_cells (w : World) (u v : Value) (t : TypeId) : (w.alloc (.cells #[u, v] t)).cell? ⟨w.heap.size, 0, none⟩ = some u ∧ (w.alloc (.cells #[u, v] t)).cell? ⟨w.heap.size, 1, none⟩ = some v := by
  constructor <;> (rw [World.cell?_alloc_at (hn := by simp)]; rfl)

/-- How checkKeywords ends. -/
def KEnd (ks : Nat → ByteArray) (n : Nat) (a : Addr) (w : World) (e : Ending) (w' : World) : Prop :=
  ((e = .returned .nilIface ∧ ∀ i, i < n → okS (ks i)) ∨
    (∃ q t, e = .returned (.iface 45 (.pointer (some ⟨q, 0, none⟩))) ∧ w.heap.size ≤ q ∧ q < w'.heap.size ∧ w'.cell? ⟨q, 0, none⟩ = some (.string t) ∧ w'.cell? ⟨q, 1, none⟩ = some (.iface 58 (.pointer (some a))) ∧ ¬ ∀ i, i < n → okS (ks i))) ∧
  Below w.heap.size w w'

theorem KEnd.bad {ks : Nat → ByteArray} {n : Nat} {a : Addr} {w W : World} (hb : Below w.heap.size w W) (hnot : ¬ ∀ i, i < n → okS (ks i)) (o : Obj) (t : ByteArray) :
    KEnd ks n a w (.returned (.iface 45 (.pointer (some ⟨W.heap.size + 1, 0, none⟩)))) ((W.alloc o).alloc (.cells #[.string t, .iface 58 (.pointer (some a))] 86)).drew := by
  have hs := hb.size
  have hz : (W.alloc o).heap.size = W.heap.size + 1 := by simp
  have hz2 : ((W.alloc o).alloc (.cells #[.string t, .iface 58 (.pointer (some a))] 86)).drew.heap.size = W.heap.size + 2 := by
    show ((W.heap.push o).push _).size = _
    simp
  refine ⟨Or.inr ⟨W.heap.size + 1, t, rfl, by omega, by omega, ?_, ?_, hnot⟩, ((hb.alloc hs o).alloc (by omega) _).drew⟩
  · rw [World.cell?_drew, ← hz, World.cell?_alloc_at (hn := by simp)]; rfl
  · rw [World.cell?_drew, ← hz, World.cell?_alloc_at (hn := by simp)]; rfl

theorem containsFunc_all (s : ByteArray) (w : World) (hsz : s.size ≤ 9223372036854775807) (h : allG s) :
    Calls Ybaf.prog 14 #[.string s, .func (.func 15) #[] #[]] w fun e w' => e = .returned (.bool false) ∧ Below w.heap.size w w' :=
  (containsFunc_any s w hsz).mono fun e w' ⟨h1, h2⟩ => ⟨by rcases h1 with ⟨_, h3⟩ | ⟨h3, _⟩; exact (h3 h).elim; exact h3, h2⟩
theorem containsFunc_not (s : ByteArray) (w : World) (hsz : s.size ≤ 9223372036854775807) (h : ¬ allG s) :
    Calls Ybaf.prog 14 #[.string s, .func (.func 15) #[] #[]] w fun e w' => e = .returned (.bool true) ∧ Below w.heap.size w w' :=
  (containsFunc_any s w hsz).mono fun e w' ⟨h1, h2⟩ => ⟨by rcases h1 with ⟨h3, _⟩ | ⟨_, h3⟩; exact h3; exact (h h3).elim, h2⟩

set_option maxRecDepth 100000 in
set_option maxHeartbeats 4000000 in
theorem checkKeywords_any (F : Interp) (a : Addr) (st : ByteArray) (p : Option Addr) (n cap : Nat) (ks : Nat → ByteArray) (w : World) (hS : Sen F a st w) (hn : n ≤ 9223372036854775807)
    (h : 0 < n → ∃ A, p = some A ∧ A.block < w.heap.size ∧ strsAt w A n ks) :
    Calls Ybaf.prog 10 #[.slice p n cap] w (KEnd ks n a w) := by
  have HA := hid h
  have HS := hid hS
  clear h hS
  go_enter Ybaf.func10, Ybaf.ntmps10
  go_wp2_with fail
  go_loopw [7] (fun s7 v => ∃ i : Nat, s7 = .int .i64 (i : Int) ∧ i ≤ n ∧ Below w.heap.size w v ∧ ∀ j, j < i → okS (ks j)) (fun s7 _ => n - (intOf s7).toNat)
  case atStart => exact ⟨0, rfl, Nat.zero_le _, Below.refl _ _, fun j h => by omega⟩
  case round =>
    obtain ⟨i, rfl, hi, hbw, hg⟩ := hrel
    have HG := hid hg
    have HB := hid hbw
    have hws := hbw.size
    clear hg
    by_cases hlt : i < n
    · have hdl : decide ((i : Int) < (n : Int)) = true := by simp; omega
      obtain ⟨A, rfl, hAb, hst⟩ := HA.out (by omega)
      obtain ⟨hc, hz⟩ := (hst.below hbw hAb) i hlt
      have HS1 := hid (HS.out.below hbw rfl)
      have hgl := HS1.out.hg
      clear hst hbw
      generalize hk : ks i = k at *
      have HK := hid hk
      clear hk
      by_cases h0 : k = ⟨#[]⟩
      · subst h0
        have htc := two_cells wr (.iface 9 (.string ⟨#[]⟩)) (.iface 58 (.pointer (some a))) 20
        have HE := hid (errorf_keyword F ⟨#[]⟩ a st wr.heap.size _ (HS1.out.alloc _).hF htc.1 htc.2 (HS1.out.alloc _).hs)
        clear htc
        go_wp2_with (first | (go_at_call 11; with_reducible (refine Calls.mono HE.out ?_); rintro e w' ⟨rfl, t, rfl⟩))
        go_ret
        exact KEnd.bad HB.out (fun h => ok_not_empty (by have := h i hlt; rw [HK.out] at this; exact this)) _ t
      · have hemp := emp h0
        by_cases hall : allG k
        · have HCF := hid (containsFunc_all k wr hz hall)
          have HALL := hid hall
          clear hall
          go_wp2_with (first | (go_at_call 14; with_reducible (refine Calls.mono HCF.out ?_); rintro e w' ⟨rfl, hb⟩))
          refine ⟨⟨i + 1, congrArg _ (by omega), by omega, HB.out.trans (hb.mono hws), fun j h1 => ?_⟩, ?_⟩
          · rcases Nat.lt_or_ge j i with h3 | h3
            · exact HG.out j h3
            · have : j = i := by omega
              subst this
              rw [HK.out]
              exact (okS_iff h0).2 HALL.out
          · show n - ((i : Int) + 1).toNat < n - ((i : Int)).toNat
            omega
        · have HCF := hid (containsFunc_not k wr hz hall)
          have HALL := hid hall
          clear hall
          go_wp2_with (first | (go_at_call 14; with_reducible (refine Calls.mono HCF.out ?_); rintro e w' ⟨rfl, hb⟩; have HS2 := hid (HS1.out.below hb rfl); have hgl2 := HS2.out.hg; have HE := hid (errorf_keyword F k a st w'.heap.size _ (HS2.out.alloc _).hF (two_cells w' (.iface 9 (.string k)) (.iface 58 (.pointer (some a))) 20).1 (two_cells w' (.iface 9 (.string k)) (.iface 58 (.pointer (some a))) 20).2 (HS2.out.alloc _).hs)) | (go_at_call 11; with_reducible (refine Calls.mono HE.out ?_); rintro e w3 ⟨rfl, t, rfl⟩))
          go_ret
          exact KEnd.bad (HB.out.trans (hb.mono hws)) (fun h => HALL.out ((okS_iff h0).1 (by have := h i hlt; rw [HK.out] at this; exact this))) _ t
    · have hdl : decide ((i : Int) < (n : Int)) = false := by simp; omega
      go_wp2
      go_ret
      exact ⟨Or.inl ⟨rfl, fun j h => HG.out j (by omega)⟩, HB.out⟩

/-- How checkResource ends. -/
def REnd (ks : Nat → ByteArray) (n : Nat) (a : Addr) (w : World) (e : Ending) (w' : World) : Prop :=
  ((e = .returned .nilIface ∧ ∀ i, i < n → okS (ks i)) ∨
    (∃ r q, e = .returned (.iface 45 (.pointer (some ⟨r, 0, none⟩))) ∧ w'.cell? ⟨r, 1, none⟩ = some (.iface 45 (.pointer (some ⟨q, 0, none⟩))) ∧ w'.cell? ⟨q, 1, none⟩ = some (.iface 58 (.pointer (some a))) ∧ ¬ ∀ i, i < n → okS (ks i))) ∧
  Below w.heap.size w w'

theorem REnd.bad {ks : Nat → ByteArray} {n : Nat} {a : Addr} {w W : World} {q : Nat} (hb : Below w.heap.size w W) (hnot : ¬ ∀ i, i < n → okS (ks i)) (o : Obj) (t : ByteArray) (hq : q < W.heap.size) (hq1 : W.cell? ⟨q, 1, none⟩ = some (.iface 58 (.pointer (some a)))) :
    REnd ks n a w (.returned (.iface 45 (.pointer (some ⟨W.heap.size + 1, 0, none⟩)))) ((W.alloc o).alloc (.cells #[.string t, .iface 45 (.pointer (some ⟨q, 0, none⟩))] 86)).drew := by
  have hs := hb.size
  have hz : (W.alloc o).heap.size = W.heap.size + 1 := by simp
  have hb2 : Below W.heap.size W ((W.alloc o).alloc (.cells #[.string t, .iface 45 (.pointer (some ⟨q, 0, none⟩))] 86)).drew := (((Below.refl _ _).alloc (Nat.le_refl _) o).alloc (by omega) _).drew
  refine ⟨Or.inr ⟨W.heap.size + 1, q, rfl, ?_, (hb2.cell (p := ⟨q, 1, none⟩) hq).trans hq1, hnot⟩, hb.trans (hb2.mono hs)⟩
  rw [World.cell?_drew, ← hz, World.cell?_alloc_at (hn := by simp)]; rfl

set_option maxRecDepth 100000 in
set_option maxHeartbeats 4000000 in
theorem checkResource_any (F : Interp) (a : Addr) (st name : ByteArray) (p : Option Addr) (n cap : Nat) (ks : Nat → ByteArray) (w : World) (hS : Sen F a st w) (hn : n ≤ 9223372036854775807)
    (h : 0 < n → ∃ A, p = some A ∧ A.block < w.heap.size ∧ strsAt w A n ks) :
    Calls Ybaf.prog 7 #[.agg #[.string name, .slice p n cap]] w (REnd ks n a w) := by
  have hb1 : Below w.heap.size w (w.alloc (.cells #[.string name, .slice p n cap] 31)) := (Below.refl _ _).alloc (Nat.le_refl _) _
  have htc := two_cells w (.string name) (.slice p n cap) 31
  have hz1 : w.heap.size < (w.alloc (.cells #[.string name, .slice p n cap] 31)).heap.size := by simp
  have hS1 := hS.alloc (.cells #[.string name, .slice p n cap] 31)
  have HK := checkKeywords_any F a st p n cap ks _ hS1 hn (fun h0 => by
    obtain ⟨A, h1, h2, h3⟩ := h h0
    exact ⟨A, h1, by omega, h3.below hb1 h2⟩)
  have HS1 := hid hS1
  have HB1 := hid hb1
  have HTC := hid htc
  have HZ1 := hid hz1
  clear h hS hS1 hb1 htc hz1
  by_cases hall : ∀ i, i < n → okS (ks i)
  · have HK1 := hid (HK.mono (R' := fun e w' => e = .returned .nilIface ∧ Below (w.alloc (.cells #[.string name, .slice p n cap] 31)).heap.size (w.alloc (.cells #[.string name, .slice p n cap] 31)) w') fun e w' ⟨h1, h2⟩ => ⟨by
      rcases h1 with ⟨h3, _⟩ | ⟨q, t, _, _, _, _, _, h3⟩
      · exact h3
      · exact (h3 hall).elim, h2⟩)
    have HALL := hid hall
    clear HK hall
    go_enter Ybaf.func7, Ybaf.ntmps7
    go_wp2_with (first | (go_at_call 10; with_reducible (refine Calls.mono HK1.out ?_); rintro e w2 ⟨rfl, hb⟩))
    go_ret
    exact ⟨Or.inl ⟨rfl, HALL.out⟩, HB1.out.trans (hb.mono (by have := HZ1.out; omega))⟩
  · have HK1 := hid (HK.mono (R' := fun e w' => ∃ q t, e = .returned (.iface 45 (.pointer (some ⟨q, 0, none⟩))) ∧ q < w'.heap.size ∧ w'.cell? ⟨q, 0, none⟩ = some (.string t) ∧ w'.cell? ⟨q, 1, none⟩ = some (.iface 58 (.pointer (some a))) ∧ Below (w.alloc (.cells #[.string name, .slice p n cap] 31)).heap.size (w.alloc (.cells #[.string name, .slice p n cap] 31)) w') fun e w' ⟨h1, h2⟩ => by
      rcases h1 with ⟨_, h3⟩ | ⟨q, t, h3, _, h4, h5, h6, _⟩
      · exact (hall h3).elim
      · exact ⟨q, t, h3, h4, h5, h6, h2⟩)
    have HALL := hid hall
    clear HK hall
    go_enter Ybaf.func7, Ybaf.ntmps7
    go_wp2_with (first | (go_at_call 10; go_must (with_reducible (refine Calls.mono HK1.out ?_)); go_must (rintro e w2 ⟨q, t, rfl, hq, hq0, hq1, hb⟩); have hc0 : w2.cell? ⟨w.heap.size, 0, none⟩ = some (.string name) := (hb.cell (p := ⟨w.heap.size, 0, none⟩) HZ1.out).trans HTC.out.1; have HS2 := hid (HS1.out.below hb rfl); have HQ := hid (And.intro hq (And.intro hq0 hq1)); have HBB := hid hb; clear hq hq0 hq1 hb; go_must (have HE := hid (errorf_resource F name ⟨q, 0, none⟩ t w2.heap.size _ (HS2.out.alloc _).hF (two_cells w2 (.iface 9 (.string name)) (.iface 45 (.pointer (some ⟨q, 0, none⟩))) 20).1 (two_cells w2 (.iface 9 (.string name)) (.iface 45 (.pointer (some ⟨q, 0, none⟩))) 20).2 ((((Below.refl _ w2).alloc (Nat.le_refl _) _).cell (p := ⟨q, 0, none⟩) HQ.out.1).trans HQ.out.2.1)))) | (go_at_call 11; go_must (with_reducible (refine Calls.mono HE.out ?_)); rintro e w3 ⟨rfl, t2, rfl⟩))
    go_ret
    exact REnd.bad (HB1.out.trans (HBB.out.mono (by have := HZ1.out; omega))) HALL.out _ t2 HQ.out.1 HQ.out.2.2

set_option maxRecDepth 100000 in
set_option maxHeartbeats 4000000 in
theorem judge_any (F : Interp) (a : Addr) (st name : ByteArray) (p : Option Addr) (n cap : Nat) (ks : Nat → ByteArray) (w : World) (hS : Sen F a st w) (hn : n ≤ 9223372036854775807)
    (h : 0 < n → ∃ A, p = some A ∧ A.block < w.heap.size ∧ strsAt w A n ks) :
    Calls Ybaf.prog 5 #[.string name, .slice p n cap] w fun e w' => e = .returned (.bool true) ∧ Below w.heap.size w w' := by
  have HA := allok_any p n cap ks w hn (fun h0 => by obtain ⟨A, h1, _, h3⟩ := h h0; exact ⟨A, h1, h3⟩)
  have HR := checkResource_any F a st name p n cap ks w hS hn h
  have HS := hid hS
  clear h hS
  by_cases hall : ∀ i, i < n → okS (ks i)
  · have HA1 := hid (HA.mono (R' := fun e w' => e = .returned (.bool true) ∧ w' = w) fun e w' ⟨h1, h2⟩ => ⟨by
      rcases h1 with ⟨h3, _⟩ | ⟨_, h3⟩
      · exact h3
      · exact (h3 hall).elim, h2⟩)
    have HR1 := hid (HR.mono (R' := fun e w' => e = .returned .nilIface ∧ Below w.heap.size w w') fun e w' ⟨h1, h2⟩ => ⟨by
      rcases h1 with ⟨h3, _⟩ | ⟨r, q, _, _, _, h3⟩
      · exact h3
      · exact (h3 hall).elim, h2⟩)
    clear HA HR hall
    go_enter Ybaf.func5, Ybaf.ntmps5
    go_wp2_with (first | (go_at_call 6; with_reducible (refine Calls.mono HA1.out ?_); rintro e w1 ⟨rfl, rfl⟩) | (go_at_call 7; with_reducible (refine Calls.mono HR1.out ?_); rintro e w2 ⟨rfl, hb⟩))
    go_ret
    exact ⟨rfl, hb⟩
  · have HA1 := hid (HA.mono (R' := fun e w' => e = .returned (.bool false) ∧ w' = w) fun e w' ⟨h1, h2⟩ => ⟨by
      rcases h1 with ⟨_, h3⟩ | ⟨h3, _⟩
      · exact (hall h3).elim
      · exact h3, h2⟩)
    have HR1 := hid (HR.mono (R' := fun e w' => ∃ r q, e = .returned (.iface 45 (.pointer (some ⟨r, 0, none⟩))) ∧ w'.cell? ⟨r, 1, none⟩ = some (.iface 45 (.pointer (some ⟨q, 0, none⟩))) ∧ w'.cell? ⟨q, 1, none⟩ = some (.iface 58 (.pointer (some a))) ∧ Below w.heap.size w w') fun e w' ⟨h1, h2⟩ => by
      rcases h1 with ⟨_, h3⟩ | ⟨r, q, h3, h4, h5, _⟩
      · exact (hall h3).elim
      · exact ⟨r, q, h3, h4, h5, h2⟩)
    clear HA HR hall
    go_enter Ybaf.func5, Ybaf.ntmps5
    go_wp2_with (first | (go_at_call 6; with_reducible (refine Calls.mono HA1.out ?_); rintro e w1 ⟨rfl, rfl⟩) | (go_at_call 7; with_reducible (refine Calls.mono HR1.out ?_); rintro e w2 ⟨r, q, rfl, hr, hq, hb⟩; have hgl := (HS.out.below hb rfl).hg) | (go_at_call 8; with_reducible (refine Calls.mono (is_wrap2 _ _ _ _ hr hq) ?_); rintro e w3 ⟨rfl, rfl⟩))
    go_ret
    exact ⟨rfl, hb⟩
end Go.Proofs.YbulkcntwFmt
