/-
  The walks of 'ZZSkipSpace' (13) and of the law 'FnSkipSpaceDecidedByWhatItRead' (5).
-/
import Derived.Test.Qxb6619267aSkipWalk
namespace Go.Proofs.Qxb6619267a
open Go.RowKit Pl

theorem pst_alloc (w : World) (a : Option Addr) (n c p : Nat) (s : Bool) : Pst (w.alloc (.cells #[.slice a n c, .int .i64 p, .bool s] 31)) w.heap.size a n c p s := heap_alloc_new w _

set_option maxHeartbeats 1000000 in
theorem zz13 (n c p : Nat) (a : Option Addr) (f : Nat → Int) (s : Bool) (w : World) (hI : Ints w a n f) (hp : p ≤ n) (hn : n ≤ 65536) :
    Calls Try.prog 13 #[.slice a n c, .int .i64 p, .bool s] w fun e w' => e = .returned (.tuple #[.int .i64 (skip f n p), .bool s]) ∧ Below w.heap.size w w' := by
  have HI := hide_of hI
  clear hI
  go_enter Try.func13, Try.ntmps13
  go_wp2_with fail
  have hb0 : Below w.heap.size w (w.alloc (.cells #[.slice a n c, .int .i64 p, .bool s] 31)) := (Below.refl _ _).alloc (Nat.le_refl _) _
  refine (skip17 w.heap.size n c p a f s _ (pst_alloc w a n c p s) (fun wr h => HI.out.below (hb0.trans h)) hp hn).mono ?_
  rintro e w2 ⟨rfl, hs, hb⟩
  have hc1 := hs.c1
  have hc2 := hs.c2
  have hb2 := hb0.trans hb
  clear hs hb hb0
  go_wp2_with fail
  go_quiet (fail)
  go_wp2_with fail
  go_ret2
  exact ⟨rfl, below_drewN hb2 _⟩

theorem skip_facts (f : Nat → Int) (n p k : Nat) (hp : p ≤ n) (hpk : p ≤ k) (hk : k ≤ n) : ∃ R, skip f n p = R ∧ p ≤ R ∧ R ≤ n ∧ (R < n → white (f R) = false ∧ f R ≠ 37) ∧ (p < n → white (f p) = true ∨ f p = 37 → p < R) ∧ skip f n R = R ∧ skip f k p = min k R := by
  obtain ⟨h1, h2, h3⟩ := scan_bd f n (n - p) false p (by omega)
  refine ⟨skip f n p, rfl, h1, h2, fun h => st_none_iff (h3 h), fun hpn hw => ?_, ?_, scan_cut f n k hk (n - p) false p (by omega) hpk⟩
  · have h4 : ∃ m, st false (f p) = some m := by
      rcases hw with hw | hw
      · exact ⟨_, st_white hw⟩
      · exact ⟨_, st_pct hw⟩
    obtain ⟨m, hm⟩ := h4
    have e : skip f n p = scan f n (n - (p + 1)) m (p + 1) := scan_step hpn false m hm
    have := (scan_bd f n (n - (p + 1)) m (p + 1) (by omega)).1
    omega
  · by_cases h : skip f n p < n
    · exact scan_stop h false (h3 h)
    · have e : skip f n p = n := Nat.le_antisymm h2 (by omega)
      rw [e]
      exact scan_end f n false

set_option maxRecDepth 100000 in
set_option maxHeartbeats 4000000 in
theorem law5_any (a : Option Addr) (n c : Nat) (f : Nat → Int) (pos cc : Int) (w : World) (hI : Ints w a n f) (hnil : a = none → n = 0 ∧ c = 0) (hn : n ≤ 9223372036854775807) :
    Calls Try.prog 5 #[.slice a n c, .int .i64 pos, .int .i64 cc] w fun e w' => e = .returned (.bool true) ∧ Below w.heap.size w w' := by
  obtain ⟨i5, hi5, hz50, hz51, hz52⟩ := info_parts Try.info5
  have hsz5 : (Try.prog.info? 5).map (·.size) = some 1 := by rw [hi5]; simp [hz51]
  have hq22 : ∀ (w : World) (a : Option Addr) (n c : Nat), (binOp .neq 22 (.slice a n c) (.slice none 0 0)).run Try.prog w = .ok (.bool (!a.isNone)) w := fun w a n c => run_neq_slice_nil_any w 22 5 a n c 0 0 Try.underlying22
  have HI := hide_of hI
  have HN := hide_of hnil
  clear hI hnil
  by_cases h1 : 1048576 < n
  · go_enter Try.func5, Try.ntmps5
    go_wp2_with (go_at_call 12; go_in)
    go_ret
    exact ⟨rfl, Below.refl _ _⟩
  by_cases h2 : 65536 < n
  · go_enter Try.func5, Try.ntmps5
    go_wp2_with (go_at_call 12; go_in)
    go_ret
    exact ⟨rfl, Below.refl _ _⟩
  by_cases h3 : pos < 0
  · go_enter Try.func5, Try.ntmps5
    go_wp2_with (go_at_call 12; go_in)
    go_ret
    exact ⟨rfl, Below.refl _ _⟩
  have h3' : decide (pos < 0) = false := by simpa using h3
  by_cases h4 : (n : Int) < pos
  · go_enter Try.func5, Try.ntmps5
    go_wp2_with (go_at_call 12; go_in)
    go_ret
    exact ⟨rfl, Below.refl _ _⟩
  have h4' : decide ((n : Int) < pos) = false := by simpa using h4
  by_cases h5 : cc < pos
  · go_enter Try.func5, Try.ntmps5
    go_wp2_with (go_at_call 12; go_in)
    go_ret
    exact ⟨rfl, Below.refl _ _⟩
  have h5' : decide (cc < pos) = false := by simpa using h5
  by_cases h6 : (n : Int) < cc
  · go_enter Try.func5, Try.ntmps5
    go_wp2_with (go_at_call 12; go_in)
    go_ret
    exact ⟨rfl, Below.refl _ _⟩
  have h6' : decide ((n : Int) < cc) = false := by simpa using h6
  obtain ⟨p, rfl⟩ := Int.eq_ofNat_of_zero_le (Int.not_lt.1 h3)
  obtain ⟨k, rfl⟩ := Int.eq_ofNat_of_zero_le (show 0 ≤ cc by omega)
  have hpn : p ≤ n := by omega
  have hpk : p ≤ k := by omega
  have hkn : k ≤ n := by omega
  have hn' : n ≤ 65536 := by omega
  clear hn h1 h2 h3 h4 h5 h6
  go_enter Try.func5, Try.ntmps5
  go_upto_if 41 with (go_at_call 12; go_in)
  clear h3' h4' h5' h6'
  go_cut [0, 7] (fun s0 _ wx => ∃ a1 c1, s0 = .slice a1 n c1 ∧ Form a1 n c1 ∧ Ints wx a1 n f ∧ Below w.heap.size w wx)
  case first =>
    cases a with
    | none =>
      obtain ⟨rfl, rfl⟩ := HN.out rfl
      go_wp2_with fail
      go_meet
      exact ⟨none, 0, rfl, .inl ⟨rfl, rfl, rfl⟩, HI.out, Below.refl _ _⟩
    | some x =>
      go_wp2_with (first
        | (at_make; refine wpList_make_full _ rfl (.tmp 43) (.tmp 43) 22 rfl w.heap.size 5 i5 (.int .u8 0) 1 Try.underlying22 hi5 hz50 hz51 .i64 .i64 _ _ n rfl rfl rfl rfl (by rw [hz52]; omega) (by unfold maxLen; omega) (Nat.le_refl _) ?_; intro w1 hown1 hgrow1; have hb1 : Below w.heap.size w w1 := (Below.refl _ _).grown hgrow1 (Nat.le_refl _) (fun k hk => by cases hk); have hg1 := block_of_full hown1; clear hown1 hgrow1)
        | (refine wpList_copy_splice (by rfl) (.tmp 45) (.tmp 46) 22 22 (by rfl) 5 Try.underlying22 hsz5 (some ⟨w.heap.size, 0, none⟩) (some x) n n n c (by rfl) (by rfl) w.heap.size 0 _ 5 hg1 (IL f n) (by rw [IL_len]; simp) (fun h => ⟨rfl, IL_src HI.out hb1 h⟩) (by rw [cells_made, IL_len]; omega) (IL_one f n) w.heap.size w hb1 (Nat.le_refl _) ?_; intro w2 HG2 hB2))
      go_meet
      have hg2 : w2.heap[w.heap.size]? = some (.cells (IL f n).toArray 5 (0, 0)) := by
        have := HG2.out
        rw [splice_all _ _ (by rw [cells_made, IL_len])] at this
        exact this
      exact ⟨_, n, rfl, .inr ⟨w.heap.size, rfl, rfl⟩, IL_ints hg2, hB2⟩
  case rest =>
  obtain ⟨a1, c1, rfl, hf1, hi1, hb1⟩ := hcut
  rename World => w1
  have HI1 := hide_of hi1
  have h22 := slice_hi hf1 hkn
  obtain ⟨R, hR, hpR, hRn, hR1, hR2, hR3, hR4⟩ := skip_facts f n p k hpn hpk hkn
  have HR := hide_of hR
  have HR1 := hide_of hR1
  have HR2 := hide_of hR2
  have HR3 := hide_of hR3
  have HR4 := hide_of hR4
  clear hi1 hf1 HI HN hR hR1 hR2 hR3 hR4
  have hz := zz13 n c1 p a1 f false w1 HI1.out hpn hn'
  rw [HR.out] at hz
  go_wp2_with fail
  refine hz.mono ?_
  rintro e w2 ⟨rfl, hb2⟩
  have hbw2 : Below w.heap.size w w2 := hb1.trans (hb2.mono hb1.size)
  have HI2 := hide_of (HI1.out.below hb2)
  clear hz hb2 hb1 HI1
  have t1 : decide ((R : Int) < (p : Int)) = false := decide_eq_false (by omega)
  have t2 : decide ((n : Int) < (R : Int)) = false := decide_eq_false (by omega)
  go_upto_region 16 with fail
  go_cut [81] (fun s81 wx => s81 = .bool false ∧ wx = w2)
  case first =>
    by_cases hlt : R < n
    · obtain ⟨hw, h37⟩ := HR1.out hlt
      obtain ⟨b, off, e1, hcq⟩ := HI2.out.at R hlt
      subst e1
      have h37' : (f R == 37) = false := by simpa using h37
      have hl1 : (R : Int) < (n : Int) := by omega
      clear h37
      generalize f R = x at hcq hw h37'
      go_wp2_with (go_at_call 14; refine (white_any _ _).mono ?_; rintro e w3 ⟨rfl, hw⟩; have hw2 := hw.symm; clear hw; subst hw2)
      go_meet
      exact ⟨rfl, rfl⟩
    · have hl1 : decide ((R : Int) < (n : Int)) = false := decide_eq_false (by omega)
      go_wp2_with fail
      go_meet
      exact ⟨rfl, rfl⟩
  case rest =>
  obtain ⟨rfl, e⟩ := hcut
  subst e
  rename World => w2
  clear t1 t2
  go_upto_region 18 with fail
  go_cut [104] (fun s104 wx => s104 = .bool false ∧ wx = w2)
  case first =>
    by_cases hlt : p < n
    · obtain ⟨b, off, e1, hcq⟩ := HI2.out.at p hlt
      subst e1
      have hl1 : (p : Int) < (n : Int) := by omega
      cases hw : white (f p) with
      | true =>
        have hlt2 := HR2.out hlt (.inl hw)
        have hne : ((R : Int) == (p : Int)) = false := by simp; omega
        generalize f p = x at hcq hw
        go_wp2_with (go_at_call 14; refine (white_any _ _).mono ?_; rintro e w3 ⟨rfl, hw⟩; have hw2 := hw.symm; clear hw; subst hw2)
        go_meet
        exact ⟨rfl, rfl⟩
      | false =>
        by_cases h37 : f p = 37
        · have hlt2 := HR2.out hlt (.inr h37)
          have hne : ((R : Int) == (p : Int)) = false := by simp; omega
          rw [h37] at hcq hw
          clear h37
          go_wp2_with (go_at_call 14; refine (white_any _ _).mono ?_; rintro e w3 ⟨rfl, hw⟩; have hw2 := hw.symm; clear hw; subst hw2)
          go_meet
          exact ⟨rfl, rfl⟩
        · have h37' : (f p == 37) = false := by simpa using h37
          clear h37
          generalize f p = x at hcq hw h37'
          go_wp2_with (go_at_call 14; refine (white_any _ _).mono ?_; rintro e w3 ⟨rfl, hw⟩; have hw2 := hw.symm; clear hw; subst hw2)
          go_meet
          exact ⟨rfl, rfl⟩
    · have hl1 : decide ((p : Int) < (n : Int)) = false := decide_eq_false (by omega)
      go_wp2_with fail
      go_meet
      exact ⟨rfl, rfl⟩
  case rest =>
  obtain ⟨rfl, e⟩ := hcut
  subst e
  rename World => w2
  have hz := zz13 n c1 R a1 f false w2 HI2.out hRn hn'
  rw [HR3.out] at hz
  go_wp2_with fail
  refine hz.mono ?_
  rintro e w3 ⟨rfl, hb3⟩
  have hbw3 : Below w.heap.size w w3 := hbw2.trans (hb3.mono hbw2.size)
  have HI3 := hide_of (HI2.out.below hb3)
  clear hz hb3 hbw2 HI2
  obtain ⟨M, hM⟩ : ∃ M, M = min k R := ⟨_, rfl⟩
  have hz := zz13 k c1 p a1 f false w3 (HI3.out.hi hkn) hpk (by omega)
  rw [HR4.out, ← hM] at hz
  go_wp2_with fail
  refine hz.mono ?_
  rintro e w4 ⟨rfl, hb4⟩
  have hbw4 : Below w.heap.size w w4 := hbw3.trans (hb4.mono hbw3.size)
  clear hz hb4 hbw3 HI3
  by_cases hkr : k < R
  · obtain rfl : M = k := by omega
    clear hM
    have hkr' : (M : Int) < (R : Int) := by omega
    go_wp2_with fail
    go_ret
    exact ⟨rfl, hbw4⟩
  · obtain rfl : M = R := by omega
    clear hM
    have hkr' : decide ((k : Int) < (M : Int)) = false := decide_eq_false (by omega)
    go_wp2_with fail
    go_ret
    exact ⟨rfl, hbw4⟩
end Go.Proofs.Qxb6619267a
