import Derived.Test.YbulkcoeqMid
namespace Go.Proofs.Ybulkcoeq
open Go.RowKit
set_option linter.unusedVariables false
set_option linter.unusedSimpArgs false

/-- The senders and the contacts turned to, ahead of the rebuild. -/
structure Hq (n t : Nat) (S Tb : Nat → Nat) (f : Nat → Int) (sb tb : Nat) (v : World) : Prop where
  first : ∀ k, k < n → v.cell? ⟨S k, 6, none⟩ = some (.int .i64 (f k))
  own : ∀ k, k < n → v.cell? ⟨S k, 5, none⟩ = some (.pointer none)
  sC : ∀ k, k < n → isC v (S k)
  tC : ∀ k, k < t → isC v (Tb k)
  inj : ∀ i j, i < n → j < n → S i = S j → i = j
  rowS : v.ownsRow 0 24 1 (.slice (some ⟨sb, 0, none⟩) n n) n ((List.range n).map fun k => ptr (S k))
  rowT : v.ownsRow 0 24 1 (.slice (some ⟨tb, 0, none⟩) t t) t ((List.range t).map fun k => ptr (Tb k))
theorem Hq.hp {n t : Nat} {S Tb : Nat → Nat} {f : Nat → Int} {sb tb rb : Nat} {sh : Option Addr} {v v' : World} (h : Hq n t S Tb f sb tb v) {B : Nat} (hb : Below B v v') (hB : v.heap.size ≤ B)
    (rsh : v'.cell? ⟨rb, 1, none⟩ = some (.pointer sh)) (rse : v'.cell? ⟨rb, 11, none⟩ = some (.slice (some ⟨sb, 0, none⟩) n n)) (rtu : v'.cell? ⟨rb, 12, none⟩ = some (.slice (some ⟨tb, 0, none⟩) t t)) : Hp n t S Tb f rb sb tb sh v' := by
  have c : ∀ {k i : Nat} {u : Value}, v.cell? ⟨k, i, none⟩ = some u → v'.cell? ⟨k, i, none⟩ = some u := fun hc => (hb.cell (Nat.lt_of_lt_of_le (cell_lt hc) hB)).trans hc
  exact ⟨fun k hk => c (h.first k hk), fun k hk => c (h.own k hk), fun k hk => (h.sC k hk).of_heap (hb.block _ (Nat.lt_of_lt_of_le (h.sC k hk).lt hB)), fun k hk => (h.tC k hk).of_heap (hb.block _ (Nat.lt_of_lt_of_le (h.tC k hk).lt hB)), h.inj, rsh, rse, rtu, own_below h.rowS hb hB, own_below h.rowT hb hB⟩

set_option maxRecDepth 100000 in
set_option maxHeartbeats 16000000 in
theorem ask_obj {pa : Option Addr} {n t capA sb tb : Nat} {tu : Int} {shb : Bool} {S Tb : Nat → Nat} {f : Nat → Int} {w wd : World}
    {y3 y4 y5 y9 y11 y12 y13 y14 y15 y16 y17 y18 y19 y20 y21 y22 y23 y24 y25 y26 y27 y28 y29 y30 y31 y32 y33 y34 y35 y36 y37 y38 y39 y40 y41 y42 y43 y44 y45 y46 y47 y48 y49 y50 y51 y52 y53 y54 y55 y56 y57 y58 y59 y60 y61 y62 y63 y64 y65 y66 y67 y68 y69 y70 y71 y72 y73 y74 y75 y76 y77 y78 y79 y80 y81 y82 y83 y84 y85 y86 y87 y88 y89 y90 y91 y92 y93 y94 y95 y96 y97 y98 y99 y100 y101 y102 y103 y104 y105 y106 y107 y108 y109 y110 y111 y112 y113 y114 y115 y116 y117 y118 y119 y120 y121 y122 y123 y124 y125 y126 y127 y128 y129 y130 y131 y132 y133 y134 y135 y136 y137 y138 y139 y140 y141 y142 y143 y144 y145 y146 y147 y148 y149 y150 y151 y152 y153 y154 y155 y156 y157 y158 y159 y160 y161 y162 y163 y164 y165 y166 y167 y168 y169 y170 y171 y172 y173 y174 y175 y176 y177 y178 y179 y180 y181 y182 y183 y184 y185 y186 y187 y188 y189 y190 y191 y192 y193 y194 y195 y196 y197 y198 y199 y200 y201 y202 y203 y204 y205 y206 y207 y208 y209 y210 y211 y212 y213 y214 y215 y216 y217 y218 y219 y220 y221 : Value}
    (ht : t ≤ 8) (hn : n ≤ 1024) (hbw : Below w.heap.size w wd) (hQ : Hq n t S Tb f sb tb wd) (hA : 0 < n → ∃ A, pa = some A ∧ A.block < w.heap.size ∧ ∀ i, i < n → w.cell? (A.add i) = some (.int .i64 (f i))) :
    Code.wp Yba.prog (rights 7 (Yba.f3.body.getD .skip)) (bodyPost Yba.prog Yba.f3 fun e w' => e = .returned (.bool true) ∧ Below w.heap.size w w')
      { tmps := #[.slice pa n capA, .int .u8 tu, .bool shb, y3, y4, y5, .bool false, .int .i64 (t : Int), .slice (some ⟨sb, 0, none⟩) n n, y9, .slice (some ⟨tb, 0, none⟩) t t, y11, y12, y13, y14, y15, y16, y17, y18, y19, y20, y21, y22, y23, y24, y25, y26, y27, y28, y29, y30, y31, y32, y33, y34, y35, y36, y37, y38, y39, y40, y41, y42, y43, y44, y45, y46, y47, y48, y49, y50, y51, y52, y53, y54, y55, y56, y57, y58, y59, y60, y61, y62, y63, y64, y65, y66, y67, y68, y69, y70, y71, y72, y73, y74, y75, y76, y77, y78, y79, y80, y81, y82, y83, y84, y85, y86, y87, y88, y89, y90, y91, y92, y93, y94, y95, y96, y97, y98, y99, y100, y101, y102, y103, y104, y105, y106, y107, y108, y109, y110, y111, y112, y113, y114, y115, y116, y117, y118, y119, y120, y121, y122, y123, y124, y125, y126, y127, y128, y129, y130, y131, y132, y133, y134, y135, y136, y137, y138, y139, y140, y141, y142, y143, y144, y145, y146, y147, y148, y149, y150, y151, y152, y153, y154, y155, y156, y157, y158, y159, y160, y161, y162, y163, y164, y165, y166, y167, y168, y169, y170, y171, y172, y173, y174, y175, y176, y177, y178, y179, y180, y181, y182, y183, y184, y185, y186, y187, y188, y189, y190, y191, y192, y193, y194, y195, y196, y197, y198, y199, y200, y201, y202, y203, y204, y205, y206, y207, y208, y209, y210, y211, y212, y213, y214, y215, y216, y217, y218, y219, y220, y221], defers := [] } wd := by
  conv => arg 2; dsimp only [rights, Yba.f3, Option.getD]
  obtain ⟨i0, hii, hz0, hz1, hz2⟩ := info_parts info24
  have HQ := hid hQ
  have HB := hid hbw
  have HA := hid hA
  clear hQ hbw hA
  go_upto_if 70 with fail
  go_cut [] (fun v => ∃ sh : Option Addr, sh.isSome = shb ∧ Below wd.heap.size wd v ∧ v.cell? ⟨wd.heap.size, 1, none⟩ = some (.pointer sh) ∧ v.cell? ⟨wd.heap.size, 11, none⟩ = some (.slice (some ⟨sb, 0, none⟩) n n) ∧ v.cell? ⟨wd.heap.size, 12, none⟩ = some (.slice (some ⟨tb, 0, none⟩) t t))
  case first =>
    cases shb with
    | false =>
      go_wp2
      go_meet
      refine ⟨none, rfl, (Below.refl _ _).alloc (Nat.le_refl _) _, ?_, ?_, ?_⟩
      all_goals (rw [World.cell?_alloc_at (hn := by simp)]; rfl)
    | true =>
      go_wp2
      go_meet
      refine ⟨some ⟨wd.heap.size + 1, 0, none⟩, rfl, ((Below.refl _ _).alloc (Nat.le_refl _) _).alloc (by simp) _, ?_, ?_, ?_⟩
      · rw [((Below.refl _ (wd.alloc _)).alloc (Nat.le_refl _) _).cell (p := ⟨wd.heap.size, 1, none⟩) (by simp), World.cell?_alloc_at (hn := by simp)]; rfl
      · rw [((Below.refl _ (wd.alloc _)).alloc (Nat.le_refl _) _).cell (p := ⟨wd.heap.size, 11, none⟩) (by simp), World.cell?_alloc_at (hn := by simp)]; rfl
      · rw [((Below.refl _ (wd.alloc _)).alloc (Nat.le_refl _) _).cell (p := ⟨wd.heap.size, 12, none⟩) (by simp), World.cell?_alloc_at (hn := by simp)]; rfl
  case rest =>
    generalize wc = wx at *
    obtain ⟨sh, hsh, hbx, c1, c11, c12⟩ := hcut
    have hP := HQ.out.hp hbx (Nat.le_refl _) c1 c11 c12
    have HPx := hid hP
    have HBX := hid hbx
    have hsx := hbx.size
    clear hbx hP
    go_upto_region 21 with (first
      | (at_builtin; refine wpList_append_own _ rfl _ (.tmp 76) 23 rfl wx.heap.size 24 i0 (.pointer none) 1 8 Yba.underlying23 hii hz0 hz1 hz2 rfl (by decide) _ 0 [] rfl (World.ownsRow_nil _ _ _ _) ⟨sb, 0, none⟩ n n ((List.range n).map fun k => ptr (S k)) rfl (by simp) (HPx.out.rowS.cells (g := sb) rfl) (fun u hu => by obtain ⟨b, _, rfl⟩ := List.mem_map.1 hu; rfl) (by unfold maxLen; omega) (by omega) (Nat.le_refl _) ?_; go_must (intro v1 w3 hown1 hg1 hnil1); go_must (have hb3 : Below wx.heap.size wx w3 := (Below.refl _ _).grown hg1 (Nat.le_refl _) (fun k hk => by cases hk)); go_must (obtain ⟨pS, cS, rfl, _, _⟩ := own_form hown1); have HOS := hid hown1; have HB3 := hid hb3; have HP3 := hid (HPx.out.below hb3 (Nat.le_refl _)); clear hown1 hg1 hnil1 hb3)
      | (at_builtin; go_must (refine wpList_append_own _ rfl _ (.tmp 78) 23 rfl w3.heap.size 24 i0 (.pointer none) 1 8 Yba.underlying23 hii hz0 hz1 hz2 rfl (by decide) _ 0 [] rfl (World.ownsRow_nil _ _ _ _) ⟨tb, 0, none⟩ t t ((List.range t).map fun k => ptr (Tb k)) rfl (by simp) (HP3.out.rowT.cells (g := tb) rfl) (fun u hu => by obtain ⟨b, _, rfl⟩ := List.mem_map.1 hu; rfl) (by unfold maxLen; omega) (by omega) (Nat.le_refl _) ?_); go_must (intro v2 w4 hown2 hg2 hnil2); go_must (have hb4 : Below w3.heap.size w3 w4 := (Below.refl _ _).grown hg2 (Nat.le_refl _) (fun k hk => by cases hk)); go_must (obtain ⟨pT, cT, rfl, _, _⟩ := own_form hown2); have HOT := hid hown2; have HB4 := hid hb4; have HP4 := hid (HP3.out.below hb4 (Nat.le_refl _)); clear hown2 hg2 hnil2 hb4))
    go_cut [15] (fun s15 v => ∃ p c, s15 = .slice p (asked sh f S Tb n t).length c ∧ v.ownsRow 0 24 1 (.slice p (asked sh f S Tb n t).length c) (asked sh f S Tb n t).length ((asked sh f S Tb n t).map ptr) ∧ Below w4.heap.size w4 v)
    case first =>
      have HC := hid (askable_any HP4.out ht hn)
      go_wp2_with (first | (go_at_call 4; with_reducible (refine Calls.mono HC.out ?_); rintro e w5 ⟨sl, rfl, hown, hb5⟩; obtain ⟨p5, c5, rfl, _, _⟩ := own_form hown))
      go_meet
      exact ⟨p5, c5, rfl, hown, hb5⟩
    case rest =>
      generalize wc = wy at *
      obtain ⟨pG, cG, rfl, hG, hby⟩ := hcut
      have hB4 : Below wx.heap.size wx wy := HB3.out.trans ((HB4.out.trans (hby.mono HB4.out.size)).mono HB3.out.size)
      have hB5 : Below w.heap.size w wy := HB.out.trans ((HBX.out.trans (hB4.mono hsx)).mono HB.out.size)
      have hlen : (asked sh f S Tb n t).length ≤ 2000 := by
        have := asked_at sh f S Tb n t n
        unfold asked
        omega
      have hS2 := own_base (own_below (own_below HOS.out HB4.out (Nat.le_refl _)) hby (Nat.le_refl _))
      have hT2 := own_base (own_below HOT.out hby (Nat.le_refl _))
      simp only [Nat.zero_add, List.nil_append] at hS2 hT2
      rename ∀ (a : Act) (w : World), Code.wp Yba.prog _ _ a w → _ => hK
      refine hK _ _ ?_
      exact ask_mid ht hn hlen hsh rfl hB5 (HP4.out.below hby (Nat.le_refl _)) HA.out hS2 hT2 hG
end Go.Proofs.Ybulkcoeq
