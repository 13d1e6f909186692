import Derived.Test.YbulkcntiPlain
namespace Go.Proofs.Ybulkcnti
open Go.RowKit
set_option linter.unusedVariables false
set_option linter.unusedSimpArgs false

theorem made_zero (n : Nat) : (madeCells (Value.int .u8 0).cells (n * 1)).toList = (List.replicate n (0 : Int)).map (Value.int .u8) := by
  rw [Nat.mul_one]
  apply List.ext_getElem
  · simp [madeCells]
  · intro i h1 h2
    simp [madeCells, Value.cells, Nat.mod_one]

theorem made_pg {w w1 : World} {n : Nat} (h : w1.ownsRow w.heap.size 5 1 (.slice (some ⟨w.heap.size, 0, none⟩) n n) n (madeCells (Value.int .u8 0).cells (n * 1)).toList) (hg : w.grownBy w1 none) (h0 : 64 ≤ n) (h1 : n ≤ 65535) :
    Pg w1 w.heap.size n n (List.replicate n 0) ∧ Below w.heap.size w w1 := by
  rw [made_zero] at h
  obtain ⟨g, cap, hv, hb, hc, hm, hbuf⟩ := bufAt_of_owns h (by omega) (fun x hx => by rw [List.eq_of_mem_replicate hx]; omega)
  injection hv with h1 h2 h3
  injection h1 with h4
  injection h4 with h5
  subst h5
  exact ⟨⟨hbuf, by simp, Nat.le_refl _, by omega, by omega, by omega⟩, (Below.refl _ _).grown hg (Nat.le_refl _) (fun k hk => by cases hk)⟩

/-- The node's variable laid, and the page made: whatever function makes it. -/
theorem made_ts {f : Nat} {args : Array Value} {w w1 : World} {b n : Nat} {l P : List Int} (hp : Pg w1 b n n l) (hb : Below w.heap.size w w1) (hb0 : w.heap.size ≤ b)
    (hC : ∀ W, Pg W b n n l → Calls Yba.prog f args W fun e w' => e = .returned (nd b n n) ∧ Only b W w' ∧ Pg w' b n n P) :
    Calls Yba.prog f args (w1.alloc (.cells #[.slice none 0 0] 25)) fun e w3 => e = .returned (nd b n n) ∧ w3.cell? ⟨w1.heap.size, 0, none⟩ = some (.slice none 0 0) ∧ (∀ i, w3.frozen? ⟨w1.heap.size, i, none⟩ = false) ∧ w1.heap.size < w3.heap.size ∧
      TS w b w1.heap.size n P (w3.setCell ⟨w1.heap.size, 0, none⟩ (.slice (some ⟨b, 0, none⟩) n n)) := by
  have bl := hp.buf.ic.lt
  obtain ⟨W0, hW0⟩ : ∃ W, W = w1.alloc (.cells #[.slice none 0 0] 25) := ⟨_, rfl⟩
  have hp0 : Pg W0 b n n l := by rw [hW0]; exact hp.kept (Below.heap_alloc _ _ _ bl)
  have s0 : W0.heap.size = w1.heap.size + 1 := by rw [hW0]; simp
  have r0 : W0.cell? ⟨w1.heap.size, 0, none⟩ = some (.slice none 0 0) := by rw [hW0, World.cell?_alloc_new]; rfl
  have i0 : isC W0 w1.heap.size := by
    rw [hW0]
    exact ⟨#[.slice none 0 0], 25, by show (w1.heap.push _)[w1.heap.size]? = _; simp⟩
  have hb1 : Below w.heap.size w W0 := by rw [hW0]; exact hb.alloc hb.size _
  have hne : ¬ w1.heap.size = b := by omega
  have hsz := hb.size
  rw [← hW0]
  refine (hC W0 hp0).mono ?_
  rintro e w3 ⟨rfl, ho, hq⟩
  have c3 := (ho.cell (i := 0) (by omega) hne).trans r0
  have i3 := i0.of_heap (ho.block _ (by omega) hne)
  have hb3 := ho.below hb1 (by omega) hb0
  refine ⟨rfl, c3, i3.frozen, i3.lt, World.cell?_setCell_same _ _ _ c3, hq.kept (Below.heap_setCell _ ⟨w1.heap.size, 0, none⟩ _ b (by show b ≠ w1.heap.size; omega)), ?_, hb0, hsz, by simpa using i3.lt, hne⟩
  exact ⟨hb3.os, hb3.tape, hb3.output, by simpa using hb3.size, fun k hk => (Below.heap_setCell w3 ⟨w1.heap.size, 0, none⟩ _ k (by show k ≠ w1.heap.size; omega)).trans (hb3.block k hk)⟩

set_option maxHeartbeats 6400000 in
theorem top_branch (a0 a2 a3 : Int) (h00 : 0 ≤ a0) (h01 : a0 ≤ 65535) (h20 : 0 ≤ a2) (h21 : a2 ≤ 65535) (h30 : 0 ≤ a3) (h31 : a3 ≤ 65535) (w : World) :
    Calls Yba.prog 3 #[.int .u16 a0, .bool true, .int .u16 a2, .int .u16 a3] w fun e w' => e = .returned (.bool true) ∧ Below w.heap.size w w' := by
  obtain ⟨i0, hi, hz0, hz1, hz2⟩ := info_parts info5
  obtain ⟨n, hn⟩ : ∃ n : Nat, (n : Int) = 64 + a0 % 4033 := ⟨(64 + a0 % 4033).toNat, by omega⟩
  have hn0 : 64 ≤ n := by omega
  have hn1 : n ≤ 4096 := by omega
  have hby : i0.bytes * n ≤ 281474976710656 := by rw [hz2]; omega
  obtain ⟨P, hP⟩ : ∃ P, P = page0 n (List.replicate n 0) 2 1 := ⟨_, rfl⟩
  have HNEW := hid (fun W (h : Pg W w.heap.size n n (List.replicate n 0)) => (by rw [hP]; exact NewBranch_any w.heap.size n n _ W h : Calls Yba.prog 5 #[.slice (some ⟨w.heap.size, 0, none⟩) n n, .int .i64 1] W fun e w' => e = .returned (nd w.heap.size n n) ∧ Only w.heap.size W w' ∧ Pg w' w.heap.size n n P))
  obtain ⟨f6, f4, f12, f8, f10, f0⟩ := page0_facts n (List.replicate n 0) 2 1 hn0 (by simp)
  rw [← hP] at f6 f4 f12 f8 f10 f0
  have hal := alloc_fresh n P (a2 % 5000) (a3 % 5000) f6 f4 f12
  have hall := fun W (h : Pg W w.heap.size n n P) => allocate_any w.heap.size n n (a2 % 5000) (a3 % 5000) P [] W h (by omega) (by omega) (by omega) (by omega) (by omega) 0 f8 rfl (fun _ _ _ h => by cases h)
  have HN := hid hn
  clear hP f6 f4 f12 f8 f10 f0
  by_cases hroom : (n : Int) - 8 - 32 < a2 % 5000 + a3 % 5000
  · rw [if_pos hroom] at hal
    rw [hal] at hall
    have HA := hid hall
    have hd : decide (64 + a0 % 4033 - 8 - 32 < a2 % 5000 + a3 % 5000) = true := by rw [← hn]; simpa using hroom
    clear hroom hall hal hn
    go_enter Yba.func3, Yba.ntmps3
    go_wp2_with (first | (at_make; refine wpList_make_full _ rfl (.tmp 23) (.tmp 23) 23 rfl w.heap.size 5 i0 (.int .u8 0) 1 Yba.underlying23 hi hz0 hz1 .i64 .i64 _ _ n rfl rfl HN.out.symm HN.out.symm hby (by unfold maxLen; omega) (Nat.le_refl _) ?_; intro w1 ho1 hg1; obtain ⟨hp1, hb1⟩ := made_pg ho1 hg1 hn0 (by omega); clear ho1 hg1) | (go_at_call 5; with_reducible (refine Calls.mono (made_ts hp1 hb1 (Nat.le_refl _) HNEW.out) ?_); rintro e w3 ⟨rfl, hc3, hz3, hl3, hT3⟩) | (go_at_call 7; with_reducible (refine Calls.mono (Clone_any _ _ _ _ _ hT3.pg) ?_); rintro e w5 ⟨g, c, rfl, hg5, hp5, hb5⟩; have hT5 := hT3.read hb5; have hbx5 := hT5.box; have hgb : ¬ g = w.heap.size := by { have := hT3.pg.buf.ic.lt; omega }) | (go_at_call 8; with_reducible (refine Calls.mono (HA.out _ hT5.pg) ?_); rintro e w6 ⟨rfl, ho6, hp6⟩; have hT6 := hT5.wrote ho6 hp6) | (go_at_call 9; with_reducible (refine Calls.mono (Equal_any _ _ _ _ _ _ _ hT6.pg.buf (hp5.buf.only ho6 hgb) hT6.pg.len) ?_); rintro e w7 ⟨rfl, hh7⟩; obtain rfl := hh7.symm))
    go_ret
    exact ⟨rfl, hT6.below⟩
  · rw [if_neg hroom] at hal
    rw [hal] at hall
    have HA := hid hall
    have hd : decide (64 + a0 % 4033 - 8 - 32 < a2 % 5000 + a3 % 5000) = false := by rw [← hn]; simpa using hroom
    have HZ6 := hid (fun W g c (h : Pg W g n c P) => zzput16_any g n c 6 6 (32 + a2 % 5000) P W rfl h (by omega) (by omega) (by omega))
    have HZ4 := hid (fun W g c (h : Pg W g n c (put P 6 (32 + a2 % 5000))) => zzput16_any g n c 4 4 3 (put P 6 (32 + a2 % 5000)) W rfl h (by omega) (by omega) (by omega))
    clear hroom hall hal hn
    go_enter Yba.func3, Yba.ntmps3
    go_wp2_with (first | (at_make; refine wpList_make_full _ rfl (.tmp 23) (.tmp 23) 23 rfl w.heap.size 5 i0 (.int .u8 0) 1 Yba.underlying23 hi hz0 hz1 .i64 .i64 _ _ n rfl rfl HN.out.symm HN.out.symm hby (by unfold maxLen; omega) (Nat.le_refl _) ?_; intro w1 ho1 hg1; obtain ⟨hp1, hb1⟩ := made_pg ho1 hg1 hn0 (by omega); clear ho1 hg1) | (go_at_call 5; with_reducible (refine Calls.mono (made_ts hp1 hb1 (Nat.le_refl _) HNEW.out) ?_); rintro e w3 ⟨rfl, hc3, hz3, hl3, hT3⟩) | (go_at_call 7; with_reducible (refine Calls.mono (Clone_any _ _ _ _ _ hq6) ?_); rintro e w7 ⟨g2, c2, rfl, hg7, hp7, hb7⟩; have hT7 := hT6.read hb7; have hgb2 : ¬ w.heap.size = g2 := by { have := hT6.pg.buf.ic.lt; omega }; have hgx2 : ¬ w1.heap.size = g2 := by { have := hT6.xlt; omega }; have hgs2 : w.heap.size ≤ g2 := by { have := hT6.b0; have := hT6.pg.buf.ic.lt; omega }) | (go_at_call 7; with_reducible (refine Calls.mono (Clone_any _ _ _ _ _ hT3.pg) ?_); rintro e w5 ⟨g, c, rfl, hg5, hp5, hb5⟩; have hT5 := hT3.read hb5; have hbx5 := hT5.box; have hgb : ¬ g = w.heap.size := by { have := hT3.pg.buf.ic.lt; omega }) | (go_at_call 8; with_reducible (refine Calls.mono (HA.out _ hT5.pg) ?_); rintro e w6 ⟨rfl, ho6, hp6⟩; have hT6 := hT5.wrote ho6 hp6; have hq6 := hp5.kept (ho6.block _ hp5.buf.ic.lt hgb)) | (go_at_call 10; with_reducible (refine Calls.mono (HZ4.out _ _ _ hp8) ?_); rintro e w9 ⟨rfl, ho9, hp9⟩; have hT9 := hT8.other ho9 hgs2 hgb2 hgx2) | (go_at_call 10; with_reducible (refine Calls.mono (HZ6.out _ _ _ hp7) ?_); rintro e w8 ⟨rfl, ho8, hp8⟩; have hT8 := hT7.other ho8 hgs2 hgb2 hgx2) | (go_at_call 9; with_reducible (refine Calls.mono (Equal_any _ _ _ _ _ _ _ hT9.pg.buf hp9.buf hT9.pg.len) ?_); rintro e w10 ⟨rfl, hh10⟩; obtain rfl := hh10.symm))
    go_ret
    exact ⟨rfl, hT9.below⟩

set_option maxHeartbeats 6400000 in
theorem top_leaf (a0 a2 a3 : Int) (h00 : 0 ≤ a0) (h01 : a0 ≤ 65535) (h20 : 0 ≤ a2) (h21 : a2 ≤ 65535) (h30 : 0 ≤ a3) (h31 : a3 ≤ 65535) (w : World) :
    Calls Yba.prog 3 #[.int .u16 a0, .bool false, .int .u16 a2, .int .u16 a3] w fun e w' => e = .returned (.bool true) ∧ Below w.heap.size w w' := by
  obtain ⟨i0, hi, hz0, hz1, hz2⟩ := info_parts info5
  obtain ⟨n, hn⟩ : ∃ n : Nat, (n : Int) = 64 + a0 % 4033 := ⟨(64 + a0 % 4033).toNat, by omega⟩
  have hn0 : 64 ≤ n := by omega
  have hn1 : n ≤ 4096 := by omega
  have hby : i0.bytes * n ≤ 281474976710656 := by rw [hz2]; omega
  obtain ⟨P, hP⟩ : ∃ P, P = page0 n (List.replicate n 0) 1 0 := ⟨_, rfl⟩
  have HNEW := hid (fun W (h : Pg W w.heap.size n n (List.replicate n 0)) => (by rw [hP]; exact NewLeaf_any w.heap.size n n _ W h : Calls Yba.prog 6 #[.slice (some ⟨w.heap.size, 0, none⟩) n n] W fun e w' => e = .returned (nd w.heap.size n n) ∧ Only w.heap.size W w' ∧ Pg w' w.heap.size n n P))
  obtain ⟨f6, f4, f12, f8, f10, f0⟩ := page0_facts n (List.replicate n 0) 1 0 hn0 (by simp)
  rw [← hP] at f6 f4 f12 f8 f10 f0
  have hal := alloc_fresh n P (a2 % 5000) (a3 % 5000) f6 f4 f12
  have hall := fun W (h : Pg W w.heap.size n n P) => allocate_any w.heap.size n n (a2 % 5000) (a3 % 5000) P [] W h (by omega) (by omega) (by omega) (by omega) (by omega) 0 f8 rfl (fun _ _ _ h => by cases h)
  have HN := hid hn
  clear hP f6 f4 f12 f8 f10 f0
  by_cases hroom : (n : Int) - 8 - 32 < a2 % 5000 + a3 % 5000
  · rw [if_pos hroom] at hal
    rw [hal] at hall
    have HA := hid hall
    have hd : decide (64 + a0 % 4033 - 8 - 32 < a2 % 5000 + a3 % 5000) = true := by rw [← hn]; simpa using hroom
    clear hroom hall hal hn
    go_enter Yba.func3, Yba.ntmps3
    go_wp2_with (first | (at_make; refine wpList_make_full _ rfl (.tmp 23) (.tmp 23) 23 rfl w.heap.size 5 i0 (.int .u8 0) 1 Yba.underlying23 hi hz0 hz1 .i64 .i64 _ _ n rfl rfl HN.out.symm HN.out.symm hby (by unfold maxLen; omega) (Nat.le_refl _) ?_; intro w1 ho1 hg1; obtain ⟨hp1, hb1⟩ := made_pg ho1 hg1 hn0 (by omega); clear ho1 hg1) | (go_at_call 6; with_reducible (refine Calls.mono (made_ts hp1 hb1 (Nat.le_refl _) HNEW.out) ?_); rintro e w3 ⟨rfl, hc3, hz3, hl3, hT3⟩) | (go_at_call 7; with_reducible (refine Calls.mono (Clone_any _ _ _ _ _ hT3.pg) ?_); rintro e w5 ⟨g, c, rfl, hg5, hp5, hb5⟩; have hT5 := hT3.read hb5; have hbx5 := hT5.box; have hgb : ¬ g = w.heap.size := by { have := hT3.pg.buf.ic.lt; omega }) | (go_at_call 8; with_reducible (refine Calls.mono (HA.out _ hT5.pg) ?_); rintro e w6 ⟨rfl, ho6, hp6⟩; have hT6 := hT5.wrote ho6 hp6) | (go_at_call 9; with_reducible (refine Calls.mono (Equal_any _ _ _ _ _ _ _ hT6.pg.buf (hp5.buf.only ho6 hgb) hT6.pg.len) ?_); rintro e w7 ⟨rfl, hh7⟩; obtain rfl := hh7.symm))
    go_ret
    exact ⟨rfl, hT6.below⟩
  · rw [if_neg hroom] at hal
    rw [hal] at hall
    have HA := hid hall
    have hd : decide (64 + a0 % 4033 - 8 - 32 < a2 % 5000 + a3 % 5000) = false := by rw [← hn]; simpa using hroom
    have HZ6 := hid (fun W g c (h : Pg W g n c P) => zzput16_any g n c 6 6 (32 + a2 % 5000) P W rfl h (by omega) (by omega) (by omega))
    have HZ4 := hid (fun W g c (h : Pg W g n c (put P 6 (32 + a2 % 5000))) => zzput16_any g n c 4 4 3 (put P 6 (32 + a2 % 5000)) W rfl h (by omega) (by omega) (by omega))
    clear hroom hall hal hn
    go_enter Yba.func3, Yba.ntmps3
    go_wp2_with (first | (at_make; refine wpList_make_full _ rfl (.tmp 23) (.tmp 23) 23 rfl w.heap.size 5 i0 (.int .u8 0) 1 Yba.underlying23 hi hz0 hz1 .i64 .i64 _ _ n rfl rfl HN.out.symm HN.out.symm hby (by unfold maxLen; omega) (Nat.le_refl _) ?_; intro w1 ho1 hg1; obtain ⟨hp1, hb1⟩ := made_pg ho1 hg1 hn0 (by omega); clear ho1 hg1) | (go_at_call 6; with_reducible (refine Calls.mono (made_ts hp1 hb1 (Nat.le_refl _) HNEW.out) ?_); rintro e w3 ⟨rfl, hc3, hz3, hl3, hT3⟩) | (go_at_call 7; with_reducible (refine Calls.mono (Clone_any _ _ _ _ _ hq6) ?_); rintro e w7 ⟨g2, c2, rfl, hg7, hp7, hb7⟩; have hT7 := hT6.read hb7; have hgb2 : ¬ w.heap.size = g2 := by { have := hT6.pg.buf.ic.lt; omega }; have hgx2 : ¬ w1.heap.size = g2 := by { have := hT6.xlt; omega }; have hgs2 : w.heap.size ≤ g2 := by { have := hT6.b0; have := hT6.pg.buf.ic.lt; omega }) | (go_at_call 7; with_reducible (refine Calls.mono (Clone_any _ _ _ _ _ hT3.pg) ?_); rintro e w5 ⟨g, c, rfl, hg5, hp5, hb5⟩; have hT5 := hT3.read hb5; have hbx5 := hT5.box; have hgb : ¬ g = w.heap.size := by { have := hT3.pg.buf.ic.lt; omega }) | (go_at_call 8; with_reducible (refine Calls.mono (HA.out _ hT5.pg) ?_); rintro e w6 ⟨rfl, ho6, hp6⟩; have hT6 := hT5.wrote ho6 hp6; have hq6 := hp5.kept (ho6.block _ hp5.buf.ic.lt hgb)) | (go_at_call 10; with_reducible (refine Calls.mono (HZ4.out _ _ _ hp8) ?_); rintro e w9 ⟨rfl, ho9, hp9⟩; have hT9 := hT8.other ho9 hgs2 hgb2 hgx2) | (go_at_call 10; with_reducible (refine Calls.mono (HZ6.out _ _ _ hp7) ?_); rintro e w8 ⟨rfl, ho8, hp8⟩; have hT8 := hT7.other ho8 hgs2 hgb2 hgx2) | (go_at_call 9; with_reducible (refine Calls.mono (Equal_any _ _ _ _ _ _ _ hT9.pg.buf hp9.buf hT9.pg.len) ?_); rintro e w10 ⟨rfl, hh10⟩; obtain rfl := hh10.symm))
    go_ret
    exact ⟨rfl, hT9.below⟩

end Go.Proofs.Ybulkcnti
