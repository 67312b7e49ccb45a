/-
  The walk of the law 'FnIsNumberPointAnywhere' (4).
-/
import Derived.Test.Qxb6619267aPoint
namespace Go.Proofs.Qxb6619267a
open Go.RowKit Pl

theorem copied {w : World} {g : Nat} {l : List Int} (h : Hid (w.heap[g]? = some (.cells (splice (madeCells (Value.int .u8 0).cells (l.length * 1)).toList 0 (U l)).toArray 5 (0, 0)))) : w.heap[g]? = some (.cells (U l).toArray 5 (0, 0)) := by
  have := h.out
  rw [splice_all _ _ (by rw [cells_made]; simp)] at this
  exact this

theorem head_at (l : List Int) (h : 0 < l.length) : headSgn l = sgn (l.getD 0 0) := by
  cases l with
  | nil => simp at h
  | cons x r => rfl

theorem lst_tail {w : World} {g : Nat} {l : List Int} (h : Lst w (some ⟨g, 0, none⟩) l) : Lst w (some ⟨g, 1, none⟩) (l.drop 1) := by
  intro h0
  have h1 : 0 < l.length := by simp at h0; omega
  obtain ⟨b, off, e, hc⟩ := h h1
  cases e
  refine ⟨g, 1, rfl, fun i hi => ?_⟩
  have := hc (1 + i) (by simp at hi; omega)
  rw [Nat.zero_add] at this
  rw [this]
  simp [List.getD, Nat.add_comm]

theorem v_len (l : List Int) (k : Nat) (hk : k ≤ l.length) : (l.take k ++ 46 :: l.drop k).length = l.length + 1 := by simp; omega

set_option maxRecDepth 100000 in
set_option maxHeartbeats 4000000 in
theorem law4_some (x : Addr) (l : List Int) (c : Nat) (kk : Int) (w : World) (hI : Lst w (some x) l) (hn : l.length ≤ 9223372036854775807) :
    Calls Try.prog 4 #[.slice (some x) l.length c, .int .i64 kk] w fun e w' => e = .returned (.bool true) ∧ Below w.heap.size w w' := by
  obtain ⟨i5, hi5, hz50, hz51, hz52⟩ := info_parts Try.info5
  have hsz5 : (Try.prog.info? 5).map (·.size) = some 1 := by rw [hi5]; simp [hz51]
  have hq22 : ∀ (w : World) (a : Option Addr) (n c : Nat), (binOp .neq 22 (.slice a n c) (.slice none 0 0)).run Try.prog w = .ok (.bool (!a.isNone)) w := fun w a n c => run_neq_slice_nil_any w 22 5 a n c 0 0 Try.underlying22
  have HI := hide_of hI
  clear hI
  by_cases h1 : 1048576 < l.length
  · go_enter Try.func4, Try.ntmps4
    go_wp2_with (go_at_call 9; go_in)
    go_ret
    exact ⟨rfl, Below.refl _ _⟩
  by_cases h2 : 65536 < l.length
  · go_enter Try.func4, Try.ntmps4
    go_wp2_with (go_at_call 9; go_in)
    go_ret
    exact ⟨rfl, Below.refl _ _⟩
  by_cases h3 : kk < 0
  · go_enter Try.func4, Try.ntmps4
    go_wp2_with (go_at_call 9; go_in)
    go_ret
    exact ⟨rfl, Below.refl _ _⟩
  have h3' : decide (kk < 0) = false := by simpa using h3
  by_cases h4 : (l.length : Int) < kk
  · go_enter Try.func4, Try.ntmps4
    go_wp2_with (go_at_call 9; go_in)
    go_ret
    exact ⟨rfl, Below.refl _ _⟩
  have h4' : decide ((l.length : Int) < kk) = false := by simpa using h4
  obtain ⟨k, rfl⟩ := Int.eq_ofNat_of_zero_le (Int.not_lt.1 h3)
  have hkn : k ≤ l.length := by omega
  have hn' : l.length ≤ 65536 := by omega
  clear hn h1 h2 h3 h4
  have hfm : Form (some ⟨w.heap.size, 0, none⟩) l.length l.length := .inr ⟨_, rfl, rfl⟩
  have h22h := slice_hi hfm hkn
  have HSL := hide_of (slice_lo (a := some ⟨w.heap.size, 0, none⟩) (c := l.length) hkn)
  clear hfm
  go_enter Try.func4, Try.ntmps4
  go_upto_region 12 with (first
    | (go_at_call 9; go_in)
    | (at_make; refine wpList_make_full _ rfl (.tmp 30) (.tmp 30) 22 rfl w.heap.size 5 i5 (.int .u8 0) 1 Try.underlying22 hi5 hz50 hz51 .i64 .i64 _ _ l.length rfl rfl rfl rfl (by rw [hz52]; omega) (by unfold maxLen; omega) (Nat.le_refl _) ?_; intro w1 hown1 hgrow1; have hb1 : Below w.heap.size w w1 := (Below.refl _ _).grown hgrow1 (Nat.le_refl _) (fun k hk => by cases hk); have hg1 := block_of_full hown1; clear hown1 hgrow1)
    | (refine wpList_copy_splice (by rfl) (.tmp 32) (.tmp 33) 22 22 (by rfl) 5 Try.underlying22 hsz5 (some ⟨w.heap.size, 0, none⟩) (some x) l.length l.length l.length c (by rfl) (by rfl) w.heap.size 0 _ 5 hg1 (U l) (by simp) (fun h => ⟨rfl, U_src HI.out hb1 h⟩) (by rw [cells_made]; simp) (U_one l) w.heap.size w hb1 (Nat.le_refl _) ?_; intro w2 HG2 hB2)
    | (at_make; refine wpList_make_own _ rfl (.const (.int .i64 0)) (.tmp 38) 22 rfl w2.heap.size 5 i5 (.int .u8 0) 1 Try.underlying22 hi5 hz50 hz51 .i64 .i64 _ (l.length + 1) rfl rfl (by simp) (by rw [hz52]; omega) (by unfold maxLen; omega) (Nat.le_refl _) ?_; intro w3 hown3 hgrow3))
  have hL2 : Lst w2 (some ⟨w.heap.size, 0, none⟩) l := U_lst (copied HG2)
  have hb3 : Below w2.heap.size w2 w3 := (Below.refl _ _).grown hgrow3 (Nat.le_refl _) (fun k hk => by cases hk)
  obtain ⟨ad, had, hpl⟩ := part_lo hL2 k hkn
  have h22l := HSL.out
  rw [had] at h22l
  have HL2 := hide_of hL2
  have HPL := hide_of hpl
  clear HG2 hg1 hb1 hL2 had hpl HSL hgrow3 h3' h4'
  have hs3 := hb3.size
  go_upto_region 13 with (at_builtin; refine wpList_append_own _ rfl (.tmp 40) (.tmp 43) 22 rfl w2.heap.size 5 i5 (.int .u8 0) 1 1 Try.underlying22 hi5 hz50 hz51 hz52 rfl (by decide) (.slice (some ⟨w2.heap.size, 0, none⟩) 0 (l.length + 1)) 0 [] rfl hown3 ⟨w.heap.size, 0, none⟩ k l.length (U (l.take k)) rfl (by simp; omega) (part_hi (HL2.out.below hb3) k) (U_one _) (by unfold maxLen; omega) (by omega) hs3 ?_; intro v4 w4 hown4 hgrow4 _)
  have hb4 : Below w2.heap.size w2 w4 := hb3.grown hgrow4 hs3 (fun k hk => (hown3.lt k hk).1)
  have hs4 := hb4.size
  have HO4 := hide_of hown4
  clear hgrow4 hown3 hown4 hb3 hs3
  go_upto_region 14 with (at_builtin; refine wpList_append_own _ rfl (.tmp 45) (.tmp 46) 22 rfl w2.heap.size 5 i5 (.int .u8 0) 1 1 Try.underlying22 hi5 hz50 hz51 hz52 rfl (by decide) v4 (0 + k) ([] ++ U (l.take k)) rfl (HO4.out.alloc _) ⟨w4.heap.size, 0, none⟩ 1 1 [.int .u8 46] rfl rfl (news_new (by simp)) (ints_oneCell .u8 [46]) (by unfold maxLen; omega) (by omega) (by simp; omega) ?_; intro v5 w5 hown5 hgrow5 _)
  have hb5 : Below w2.heap.size w2 w5 := (hb4.alloc hs4 _).grown hgrow5 (by simp; omega) (fun k hk => (HO4.out.lt k hk).1)
  have hs5 := hb5.size
  have HO5 := hide_of hown5
  clear hgrow5 hown5 HO4 hb4 hs4
  go_upto_region 15 with (at_builtin; refine wpList_append_own _ rfl (.tmp 48) (.tmp 51) 22 rfl w2.heap.size 5 i5 (.int .u8 0) 1 1 Try.underlying22 hi5 hz50 hz51 hz52 rfl (by decide) v5 (0 + k + 1) (([] ++ U (l.take k)) ++ [.int .u8 46]) rfl HO5.out ad (l.length - k) (l.length - k) (U (l.drop k)) rfl (by simp) (HPL.out w5 hb5) (U_one _) (by unfold maxLen; omega) (by omega) hs5 ?_; intro v6 w6 hown6 hgrow6 _)
  have hb6 : Below w2.heap.size w2 w6 := hb5.grown hgrow6 hs5 (fun k hk => (HO5.out.lt k hk).1)
  obtain ⟨V, hV⟩ : ∃ V, V = l.take k ++ 46 :: l.drop k := ⟨_, rfl⟩
  have hVl : V.length = l.length + 1 := by rw [hV]; exact v_len l k hkn
  have ho6 : w6.ownsRow w2.heap.size 5 1 v6 V.length (U V) := by
    have e1 : 0 + k + 1 + (l.length - k) = V.length := by omega
    have e2 : ([] ++ U (l.take k)) ++ [.int .u8 46] ++ U (l.drop k) = U V := by rw [hV]; simp [U]
    rw [e1, e2] at hown6
    exact hown6
  obtain ⟨gv, cv, e6, hLv⟩ := own_lst ho6 (by omega)
  subst e6
  have hbw6 : Below w.heap.size w w6 := hB2.trans (hb6.mono hB2.size)
  have HLV := hide_of hLv
  have HL6 := hide_of (HL2.out.below hb6)
  obtain ⟨BA, hBA⟩ : ∃ b, b = isNum l := ⟨_, rfl⟩
  obtain ⟨G, hG⟩ : ∃ b, b = isNum V := ⟨_, rfl⟩
  have c8 := num8 (some ⟨w.heap.size, 0, none⟩) l l.length w6 HL6.out (by omega)
  have c8v := num8 (some ⟨gv, 0, none⟩) V cv w6 HLV.out (by omega)
  rw [← hBA] at c8
  rw [← hG] at c8v
  have HG : Hid (G = (!l.any pt && (!(decide (k = 0) && headSgn l) && BA))) := by show _ = _; rw [hG, hV, point_law l k hkn, hBA]
  have HD1 : Hid (0 < l.length → l.all dig = true → BA = true) := fun h0 h => by rw [hBA]; exact dig_isNum l h0 h
  have HD2 : Hid (1 < l.length → headSgn l = true → (l.drop 1).all dig = true → BA = true) := fun h0 hs h => by rw [hBA]; exact sgn_isNum l h0 hs h
  clear hVl hgrow6 hown6 HO5 hb5 hs5 hV ho6 hLv HL2 HPL hb6 hB2 hBA hG HLV h22l
  go_wp2_with fail
  refine c8.mono ?_
  rintro e w7 ⟨rfl, hw⟩
  have hw2 := hw.symm
  clear hw c8
  subst hw2
  go_wp2_with fail
  refine c8v.mono ?_
  rintro e w7 ⟨rfl, hw⟩
  have hw2 := hw.symm
  clear hw c8v
  subst hw2
  go_wp2_with fail
  go_loop [9, 10] (fun t9 t10 => ∃ j : Nat, t10 = .int .i64 j ∧ j ≤ l.length ∧ t9 = .bool ((l.take j).any pt)) (fun _ i => l.length - (intOf i).toNat)
  case atStart => exact ⟨0, rfl, Nat.zero_le _, rfl⟩
  case round =>
  obtain ⟨j, rfl, hj, rfl⟩ := hrel
  by_cases hlt : j < l.length
  · obtain ⟨b, off, e1, hc⟩ := HL6.out.at j hlt
    cases e1
    have HS := hide_of (any_take l j hlt)
    have hl1 : (j : Int) < (l.length : Int) := by omega
    rw [Nat.zero_add] at hc
    by_cases h46 : l.getD j 0 = 46
    · have HS2 : Hid ((l.take (j + 1)).any pt = true) := by show _ = _; rw [HS.out, h46]; simp [pt]
      rw [h46] at hc
      clear h46 HS
      go_wp2_with fail
      go_round
      case rel => exact ⟨j + 1, by go_num, by omega, by rw [HS2.out]⟩
      case measure => simp [intOf]; omega
    · have HS2 : Hid ((l.take (j + 1)).any pt = (l.take j).any pt) := by show _ = _; rw [HS.out]; simp only [pt, beq_eq_false_iff_ne.2 h46, Bool.or_false]
      have h46' : (l.getD j 0 == 46) = false := by simpa using h46
      clear h46 HS
      generalize l.getD j 0 = y at hc h46'
      go_wp2_with fail
      go_round
      case rel => exact ⟨j + 1, by go_num, by omega, by rw [HS2.out]⟩
      case measure => simp [intOf]; omega
  obtain rfl : j = l.length := by omega
  rw [List.take_length]
  clear hj hlt
  obtain ⟨HB, hHB⟩ : ∃ b, b = l.any pt := ⟨_, rfl⟩
  obtain ⟨BS, hBS⟩ : ∃ b, b = (decide (k = 0) && headSgn l) := ⟨_, rfl⟩
  rw [← hHB, ← hBS] at HG
  rw [← hHB]
  have HBS := hide_of hBS
  obtain ⟨D1, hD1⟩ : ∃ d, d = l.drop 1 := ⟨_, rfl⟩
  rw [← hD1] at HD2
  have HDL : Hid (D1.length = l.length - 1) := by show _ = _; rw [hD1]; simp
  have HT1 : Hid (Lst w6 (some ⟨w.heap.size, 1, none⟩) D1) := by rw [hD1]; exact lst_tail HL6.out
  have HT2 : Hid (1 < l.length → ∀ w1 : World, (Instr.slice 22 (.slice (some ⟨w.heap.size, 0, none⟩) l.length l.length) (some (.int .i64 1)) none none).run Try.prog w1 = .ok (.slice (some ⟨w.heap.size, 1, none⟩) D1.length (l.length - 1)) w1) := by
    intro h w1
    have h2 := slice_lo (a := some ⟨w.heap.size, 0, none⟩) (n := l.length) (c := l.length) (k := 1) (by omega) w1
    rw [if_neg (by omega)] at h2
    rw [HDL.out]
    exact h2
  clear hHB hBS hD1
  go_upto_region 23 with fail
  go_cut [11] (fun s11 wx => s11 = .bool BS ∧ wx = w6)
  case first =>
    by_cases h0 : k = 0
    · subst h0
      by_cases hn0 : 0 < l.length
      · obtain ⟨b, off, e1, hc⟩ := HL6.out.at 0 hn0
        cases e1
        have hsg : BS = sgn (l.getD 0 0) := by rw [HBS.out, head_at l hn0]; rfl
        have hl0 : (0 : Int) < (l.length : Int) := by omega
        have c10 := sign_any (l.getD 0 0) w6
        rw [← hsg] at c10
        clear hsg
        generalize l.getD 0 0 = y at hc c10
        go_wp2_with (go_at_call 10; refine c10.mono ?_; rintro e w7 ⟨rfl, hw⟩; have hw2 := hw.symm; clear hw; subst hw2)
        go_meet
        exact ⟨rfl, rfl⟩
      · have hsg : BS = false := by
          rw [HBS.out]
          cases l with
          | nil => rfl
          | cons y r => simp at hn0
        subst hsg
        have hl0 : decide ((0 : Int) < (l.length : Int)) = false := decide_eq_false (by omega)
        go_wp2_with fail
        go_meet
        exact ⟨rfl, rfl⟩
    · have hsg : BS = false := by rw [HBS.out, decide_eq_false h0]; rfl
      subst hsg
      have hk0 : ((k : Int) == 0) = false := by simp; omega
      go_wp2_with fail
      go_meet
      exact ⟨rfl, rfl⟩
  case rest =>
  obtain ⟨e, e2⟩ := hcut
  subst e
  subst e2
  rename World => w6
  go_upto_region 24 with fail
  go_cut [91] (fun s91 wx => s91 = .bool false ∧ wx = w6)
  case first =>
    have hG := HG.out
    clear HG HBS
    cases HB <;> cases BS <;> cases BA
    all_goals
      simp at hG
      subst hG
      go_wp2_with fail
      go_meet
      exact ⟨rfl, rfl⟩
  case rest =>
  obtain ⟨e, e2⟩ := hcut
  subst e
  subst e2
  rename World => w6
  clear HG HBS
  go_upto_region 26 with fail
  go_cut [102] (fun s102 wx => s102 = .bool false ∧ wx = w6)
  case first =>
    by_cases h0 : 0 < l.length
    · have c11 := digits_any _ l l.length w6 HL6.out (by omega)
      have hl0 : (0 : Int) < (l.length : Int) := by omega
      cases hd : l.all dig with
      | true =>
        have hb := HD1.out h0 hd
        subst hb
        rw [hd] at c11
        clear hd
        go_wp2_with (go_at_call 11; refine c11.mono ?_; rintro e w7 ⟨rfl, hw⟩; have hw2 := hw.symm; clear hw; subst hw2)
        go_meet
        exact ⟨rfl, rfl⟩
      | false =>
        rw [hd] at c11
        clear hd
        go_wp2_with (go_at_call 11; refine c11.mono ?_; rintro e w7 ⟨rfl, hw⟩; have hw2 := hw.symm; clear hw; subst hw2)
        go_meet
        exact ⟨rfl, rfl⟩
    · have hl0 : decide ((0 : Int) < (l.length : Int)) = false := decide_eq_false (by omega)
      go_wp2_with fail
      go_meet
      exact ⟨rfl, rfl⟩
  case rest =>
  obtain ⟨e, e2⟩ := hcut
  subst e
  subst e2
  rename World => w6
  clear HD1
  go_upto_region 28 with fail
  go_cut [120] (fun s120 wx => s120 = .bool false ∧ wx = w6)
  case first =>
    by_cases h1 : 1 < l.length
    · obtain ⟨b, off, e1, hc⟩ := HL6.out.at 0 (by omega)
      cases e1
      have hsg : headSgn l = sgn (l.getD 0 0) := head_at l (by omega)
      have hl0 : (0 : Int) < (l.length : Int) := by omega
      have hl1 : (1 : Int) < (l.length : Int) := by omega
      have c10 := sign_any (l.getD 0 0) w6
      rw [← hsg] at c10
      clear hsg
      generalize l.getD 0 0 = y at hc c10
      cases hs : headSgn l with
      | false =>
        rw [hs] at c10
        clear hs
        go_wp2_with (go_at_call 10; refine c10.mono ?_; rintro e w7 ⟨rfl, hw⟩; have hw2 := hw.symm; clear hw; subst hw2)
        go_meet
        exact ⟨rfl, rfl⟩
      | true =>
        have c11 := digits_any _ D1 (l.length - 1) w6 HT1.out (by rw [HDL.out]; omega)
        have hsl := HT2.out h1
        rw [hs] at c10
        cases hd : D1.all dig with
        | true =>
          have hb := HD2.out h1 hs hd
          subst hb
          rw [hd] at c11
          clear hd hs
          go_wp2_with (first
            | (go_at_call 10; refine c10.mono ?_; rintro e w7 ⟨rfl, hw⟩; have hw2 := hw.symm; clear hw; subst hw2)
            | (go_at_call 11; refine c11.mono ?_; rintro e w7 ⟨rfl, hw⟩; have hw2 := hw.symm; clear hw; subst hw2))
          go_meet
          exact ⟨rfl, rfl⟩
        | false =>
          rw [hd] at c11
          clear hd hs
          go_wp2_with (first
            | (go_at_call 10; refine c10.mono ?_; rintro e w7 ⟨rfl, hw⟩; have hw2 := hw.symm; clear hw; subst hw2)
            | (go_at_call 11; refine c11.mono ?_; rintro e w7 ⟨rfl, hw⟩; have hw2 := hw.symm; clear hw; subst hw2))
          go_meet
          exact ⟨rfl, rfl⟩
    · have hl1 : decide ((1 : Int) < (l.length : Int)) = false := decide_eq_false (by omega)
      go_wp2_with fail
      go_meet
      exact ⟨rfl, rfl⟩
  case rest =>
  obtain ⟨e, e2⟩ := hcut
  subst e
  subst e2
  go_wp2_with fail
  go_ret
  exact ⟨rfl, hbw6⟩
end Go.Proofs.Qxb6619267a
