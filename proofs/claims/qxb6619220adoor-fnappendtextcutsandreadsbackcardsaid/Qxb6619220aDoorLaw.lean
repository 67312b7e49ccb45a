/-
  The walk of the law (3).
-/
import Derived.Test.Qxb6619220aDoorParts
namespace Go.Proofs.Qxb6619220aDoor
open Go.RowKit Pl
open Go.Lib (byteCells)

theorem owned_in {w : World} {B n : Nat} {v : Value} {xs : List Value} (h : w.ownsRow B 5 1 v n xs) : ∃ a c, v = .slice a n c ∧ ∀ i, i < n → ∃ g, a = some ⟨g, 0, none⟩ ∧ w.cell? ⟨g, i, none⟩ = xs[i]? := by
  rcases h.2 with ⟨rfl, rfl⟩ | ⟨g, cap, cur, rfl, _⟩
  · exact ⟨none, 0, rfl, fun i hi => by omega⟩
  · exact ⟨_, cap, rfl, fun i hi => ⟨g, rfl, h.cellAt i (by omega)⟩⟩

theorem owned_byts0 {w : World} {B : Nat} {v : Value} {T : List UInt8} (h : w.ownsRow B 5 1 v (0 + T.length) ([] ++ byteCells T)) (h0 : 0 < T.length) : ∃ g cap, v = .slice (some ⟨g, 0, none⟩) T.length cap ∧ Byts w g 0 T := by
  obtain ⟨g, cap, e, _, hb, _⟩ := owned_byts h rfl h0
  exact ⟨g, cap, by rw [e, Nat.zero_add], hb⟩

theorem Byts.below {w w1 : World} {g off : Nat} {T : List UInt8} (h : Byts w g off T) (hb : Below w.heap.size w w1) : Byts w1 g off T := fun i hi => by
  have h1 := h i hi
  rw [hb.cell (World.block_lt_of_cell? _ _ h1)]; exact h1

theorem zz_to (B n m c c2 : Nat) (a a2 : Option Addr) (v : Value) (xs : List Value) (S : Nat → ByteArray) (C : Nat → Nat) (T : List UInt8) (hT : T = textT S C m) (w : World) (hown : w.ownsRow B 5 1 v n xs) (hb : B ≤ w.heap.size) (hA : Strs w a m S) (hC : Nums w a2 m C)
    (hsz : ∀ i, i < m → (S i).size ≤ 1048576 ∧ C i < 18446744073709551616) (hm : m ≤ 65536) (hn : n ≤ 1048576) (htab : Lib.TabBelow Tryd.prog B w powName .u64 Lib.pow10Tab) :
    Calls Tryd.prog 6 #[.slice a m c, .slice a2 m c2, v] w (App B n xs T w) := hT ▸ zz_text B n m c c2 a a2 v xs S C w hown hb hA hC hsz hm hn htab

theorem back_to (b off c n c1 c2 len : Nat) (a a2 : Option Addr) (T : List UInt8) (S : Nat → ByteArray) (C : Nat → Nat) (w : World) (hl : T.length = len) (hB : Byts w b off T) (hTT : T = textT S C n) (hT : T.length ≤ 70368744177664) (hA : Strs w a n S) (hC : Nums w a2 n C) (hu : ∀ i, i < n → C i < 18446744073709551616) (hn : n ≤ 1048576) :
    Calls Tryd.prog 7 #[.slice (some ⟨b, off, none⟩) len c, .slice a n c1, .slice a2 n c2] w fun e w' => e = .returned (.bool true) ∧ w' = w := hl ▸ back_any b off c n c1 c2 a a2 T S C w hB hTT hT hA hC hu hn

theorem same_to (b off c b2 off2 c2 len len2 : Nat) (T : List UInt8) (w : World) (hl : T.length = len) (hl2 : T.length = len2) (h1 : Byts w b off T) (h2 : Byts w b2 off2 T) (hT : T.length ≤ 70368744177664) :
    Calls Tryd.prog 8 #[.slice (some ⟨b, off, none⟩) len c, .slice (some ⟨b2, off2, none⟩) len2 c2] w fun e w' => e = .returned (.bool true) ∧ Below w.heap.size w w' := by
  subst hl; subst hl2
  exact same_any b off c b2 off2 c2 T w h1 h2 hT

theorem text_len (S : Nat → ByteArray) (C : Nat → Nat) (n : Nat) (hn : n ≤ 65536) (h : ∀ i, i < n → (S i).size ≤ 1048576 ∧ C i < 18446744073709551616) : 2 ≤ (textT S C n).length ∧ (textT S C n).length ≤ 1000000000000 := by
  have h1 := entsTo_len S C 1048576 n h
  have h2 := (textT_end S C n).1
  have h3 : n * (6 * 1048576 + 24) ≤ 65536 * (6 * 1048576 + 24) := Nat.mul_le_mul_right _ hn
  omega

theorem text_cut (S : Nat → ByteArray) (C : Nat → Nat) (k m : Nat) (hk : 0 < k) (hm : 0 < m) (T P Q : List UInt8) (hT : T = textT S C (k + m)) (hP : P = textT S C k) (hQ : Q = textT (fun i => S (k + i)) (fun i => C (k + i)) m) (L : Nat) (hL : P.length = L + 1) :
    T.length = L + Q.length ∧ (∀ i, i < L → T.getD i 0 = P.getD i 0) ∧ T.getD L 0 = 44 ∧ ∀ i, 1 ≤ i → i < Q.length → T.getD (L + i) 0 = Q.getD i 0 := by
  have e := ents_split S C k hk m hm
  unfold textT at hT hP hQ
  rw [e] at hT
  generalize entsTo S C k = E1 at *
  generalize entsTo (fun i => S (k + i)) (fun i => C (k + i)) m = E2 at *
  have hLl : L = E1.length + 1 := by rw [hP] at hL; simp at hL; omega
  subst hT hP hQ
  have e1 : (123 :: (E1 ++ 44 :: E2 ++ [125]) : List UInt8) = (123 :: E1) ++ (44 :: (E2 ++ [125])) := by simp
  have e2 : (123 :: (E1 ++ [125]) : List UInt8) = (123 :: E1) ++ [125] := by simp
  have e3 : (123 :: (E2 ++ [125]) : List UInt8) = [123] ++ (E2 ++ [125]) := by simp
  have hl1 : (123 :: E1 : List UInt8).length = L := by simp; omega
  refine ⟨by simp; omega, fun i hi => ?_, ?_, fun i h1 h2 => ?_⟩
  · rw [e1, e2]
    simp only [List.getD_eq_getElem?_getD]
    rw [List.getElem?_append_left (by omega), List.getElem?_append_left (by omega)]
  · rw [e1]
    simp only [List.getD_eq_getElem?_getD]
    rw [List.getElem?_append_right (by omega), hl1, Nat.sub_self]
    rfl
  · rw [e1, e3]
    simp only [List.getD_eq_getElem?_getD]
    obtain ⟨j, rfl⟩ : ∃ j, i = j + 1 := ⟨i - 1, by omega⟩
    rw [List.getElem?_append_right (by omega), hl1, List.getElem?_append_right (by simp)]
    simp only [Nat.add_sub_cancel_left, List.getElem?_cons_succ, List.length_singleton, Nat.add_sub_cancel]

theorem tail_slice (g c m l : Nat) (hs : (Tryd.prog.info? 5).map (·.size) = some 1) (hc : m < c) (w : World) : (Instr.slice 24 (.slice (some ⟨g, 0, none⟩) (m + l) c) (some (.int .i64 (m : Int))) none none).run Tryd.prog w = .ok (.slice (some ⟨g, m, none⟩) l (c - m)) w := by
  rw [slice_lo (e := 5) Tryd.underlying24 rfl hs (by omega) w, if_neg (by omega)]
  simp [Addr.add]
  omega

theorem below_zz {w w1 : World} {m : Nat} (h : Below (w.drewN m).heap.size (w.drewN m) w1) : Below w.heap.size w w1 := by
  have h1 : Below w.heap.size w (w.drewN m) := below_drewN (Below.refl _ _) _
  exact h1.trans (h.mono h1.size)

theorem ints_at (zs : List Int) (i : Nat) (h : i < zs.length) : (zs.map (Value.int .u8))[i]? = some (.int .u8 (zs.getD i 0)) := by simp [List.getD, h]

set_option maxRecDepth 100000 in
set_option maxHeartbeats 8000000 in
theorem law_any (a a2 a3 : Option Addr) (n c n2 c2 c3 : Nat) (S : Nat → ByteArray) (C : Nat → Nat) (zs : List Int) (kk : Int) (w : World) (hA : Strs w a n S) (hC : Nums w a2 n2 C) (hI : Ins w a3 zs)
    (hnil1 : a = none → n = 0 ∧ c = 0) (hnil2 : a2 = none → n2 = 0 ∧ c2 = 0) (hnil3 : a3 = none → zs.length = 0 ∧ c3 = 0) (hn : n ≤ 9223372036854775807) (hn2 : n2 ≤ 9223372036854775807) (hm : zs.length ≤ 9223372036854775807)
    (hsz : ∀ i, i < n → (S i).size ≤ 9223372036854775807) (hu : ∀ i, i < n2 → C i < 18446744073709551616) (htab : Lib.TabBelow Tryd.prog w.heap.size w powName .u64 Lib.pow10Tab) :
    Calls Tryd.prog 3 #[.slice a n c, .slice a2 n2 c2, .slice a3 zs.length c3, .int .i64 kk] w fun e w' => e = .returned (.bool true) ∧ Below w.heap.size w w' := by
  obtain ⟨i9, hi9, hz90, hz91, hz92⟩ := info_parts Tryd.info9
  have hsz9 : (Tryd.prog.info? 9).map (·.size) = some 1 := by rw [hi9]; simp [hz91]
  obtain ⟨i31, hi31, hz310, hz311, hz312⟩ := info_parts Tryd.info31
  have hsz31 : (Tryd.prog.info? 31).map (·.size) = some 1 := by rw [hi31]; simp [hz311]
  obtain ⟨i5, hi5, hz50, hz51, hz52⟩ := info_parts Tryd.info5
  have hsz5 : (Tryd.prog.info? 5).map (·.size) = some 1 := by rw [hi5]; simp [hz51]
  have hq22 : ∀ (w : World) (a : Option Addr) (n c : Nat), (binOp .neq 22 (.slice a n c) (.slice none 0 0)).run Tryd.prog w = .ok (.bool (!a.isNone)) w := fun w a n c => run_neq_slice_nil_any w 22 9 a n c 0 0 Tryd.underlying22
  have hq23 : ∀ (w : World) (a : Option Addr) (n c : Nat), (binOp .neq 23 (.slice a n c) (.slice none 0 0)).run Tryd.prog w = .ok (.bool (!a.isNone)) w := fun w a n c => run_neq_slice_nil_any w 23 31 a n c 0 0 Tryd.underlying23
  have HA := hide_of hA
  have HC := hide_of hC
  have HI := hide_of hI
  have HU := hide_of hu
  have HT := hide_of htab
  have HZ := hide_of (zz4_any a a2 a3 n c n2 c2 zs.length c3 S kk w hn hn2 hm hA hsz)
  have HN1 := hide_of hnil1
  have HN2 := hide_of hnil2
  have HN3 := hide_of hnil3
  clear hA hC hI hu htab hsz hnil1 hnil2 hnil3
  go_enter Tryd.func3, Tryd.ntmps3
  go_wp2_with fail
  refine Calls.mono HZ.out ?_
  rintro e w2 ⟨t, rfl, ht, hw⟩
  have hw' := hw.symm
  clear hw HZ
  subst hw'
  cases t with
  | false =>
    clear ht
    go_wp2
    go_ret
    exact ⟨rfl, Below.refl _ _⟩
  | true =>
  have HS := hide_of (ht rfl)
  clear ht
  by_cases hbig : 65536 < n ∨ 65536 < n2 ∨ 1048576 < zs.length
  · by_cases h1 : 65536 < n
    · go_wp2
      go_ret
      exact ⟨rfl, Below.refl _ _⟩
    · have h1' : decide ((65536 : Int) < (n : Int)) = false := by simp; omega
      by_cases h2 : 65536 < n2
      · go_wp2
        go_ret
        exact ⟨rfl, Below.refl _ _⟩
      · have h2' : decide ((65536 : Int) < (n2 : Int)) = false := by simp; omega
        have h3 : 1048576 < zs.length := by omega
        go_wp2
        go_ret
        exact ⟨rfl, Below.refl _ _⟩
  have hn' : n ≤ 65536 := by omega
  have hn2' : n2 ≤ 65536 := by omega
  have hm' : zs.length ≤ 1048576 := by omega
  clear hbig hn hn2 hm
  go_upto_if 40 with fail
  go_cut [0, 9] (fun s0 s9 wx => ∃ a1 c1, s0 = .slice a1 n c1 ∧ Form a1 n c1 ∧ Strs wx a1 n S ∧ Below w.heap.size w wx)
  case first =>
    cases a with
    | none =>
      obtain ⟨rfl, rfl⟩ := HN1.out rfl
      go_wp2_with fail
      go_meet
      exact ⟨none, 0, rfl, .inl ⟨rfl, rfl, rfl⟩, HA.out, Below.refl _ _⟩
    | some x =>
      go_wp2_with (first
        | (at_make; refine wpList_make_full _ rfl (.tmp 42) (.tmp 42) 22 rfl w.heap.size 9 i9 (.string ⟨#[]⟩) 1 Tryd.underlying22 hi9 hz90 hz91 .i64 .i64 _ _ n rfl rfl rfl rfl (by rw [hz92]; omega) (by unfold maxLen; omega) (Nat.le_refl _) ?_; intro w1 hown1 hgrow1; have hb1 : Below w.heap.size w w1 := (Below.refl _ _).grown hgrow1 (Nat.le_refl _) (fun k hk => by cases hk); have hg1 := block_of_full hown1; clear hown1 hgrow1)
        | (refine wpList_copy_splice (by rfl) (.tmp 44) (.tmp 45) 22 22 (by rfl) 9 Tryd.underlying22 hsz9 (some ⟨w.heap.size, 0, none⟩) (some x) n n n c (by rfl) (by rfl) w.heap.size 0 _ 9 hg1 (SL S n) (by rw [SL_len]; simp) (fun h => ⟨rfl, SL_src HA.out hb1 h⟩) (by rw [cells_madeS, SL_len]; omega) (SL_one S n) w.heap.size w hb1 (Nat.le_refl _) ?_; intro w2 HG2 hB2))
      go_meet
      have hg2 : w2.heap[w.heap.size]? = some (.cells (SL S n).toArray 9 (0, 0)) := by
        have := HG2.out
        rw [splice_all _ _ (by rw [cells_madeS, SL_len])] at this
        exact this
      exact ⟨_, n, rfl, .inr ⟨w.heap.size, rfl, rfl⟩, SL_strs hg2, hB2⟩
  case rest =>
  obtain ⟨a1, c1, rfl, hf1, hs1, hb1⟩ := hcut
  rename World => w1
  have HF1 := hide_of hf1
  have HS1 := hide_of hs1
  clear hf1 hs1 HA HN1
  go_upto_if 49 with fail
  go_cut [1, 10] (fun s1 s10 wx => ∃ a4 c4, s1 = .slice a4 n2 c4 ∧ Form a4 n2 c4 ∧ Nums wx a4 n2 C ∧ Below w1.heap.size w1 wx)
  case first =>
    cases a2 with
    | none =>
      obtain ⟨rfl, rfl⟩ := HN2.out rfl
      go_wp2_with fail
      go_meet
      exact ⟨none, 0, rfl, .inl ⟨rfl, rfl, rfl⟩, HC.out.below hb1, Below.refl _ _⟩
    | some x =>
      go_wp2_with (first
        | (at_make; refine wpList_make_full _ rfl (.tmp 51) (.tmp 51) 23 rfl w1.heap.size 31 i31 (.int .u64 0) 1 Tryd.underlying23 hi31 hz310 hz311 .i64 .i64 _ _ n2 rfl rfl rfl rfl (by rw [hz312]; omega) (by unfold maxLen; omega) (Nat.le_refl _) ?_; intro w2 hown1 hgrow1; have hb2 : Below w1.heap.size w1 w2 := (Below.refl _ _).grown hgrow1 (Nat.le_refl _) (fun k hk => by cases hk); have hg1 := block_of_full hown1; clear hown1 hgrow1)
        | (refine wpList_copy_splice (by rfl) (.tmp 53) (.tmp 54) 23 23 (by rfl) 31 Tryd.underlying23 hsz31 (some ⟨w1.heap.size, 0, none⟩) (some x) n2 n2 n2 c2 (by rfl) (by rfl) w1.heap.size 0 _ 31 hg1 (NL C n2) (by rw [NL_len]; simp) (fun h => ⟨rfl, NL_src (HC.out.below hb1) hb2 h⟩) (by rw [cells_madeN, NL_len]; omega) (NL_one C n2) w1.heap.size w1 hb2 (Nat.le_refl _) ?_; intro w3 HG2 hB2))
      go_meet
      have hg2 : w3.heap[w1.heap.size]? = some (.cells (NL C n2).toArray 31 (0, 0)) := by
        have := HG2.out
        rw [splice_all _ _ (by rw [cells_madeN, NL_len])] at this
        exact this
      exact ⟨_, n2, rfl, .inr ⟨w1.heap.size, rfl, rfl⟩, NL_nums hg2, hB2⟩
  case rest =>
  obtain ⟨a4, c4, rfl, hf4, hs4, hb2⟩ := hcut
  rename World => w2
  have HF4 := hide_of hf4
  have HC4 := hide_of hs4
  have HS2 := hide_of (HS1.out.below hb2)
  have hbw : Below w.heap.size w w2 := hb1.trans (hb2.mono hb1.size)
  have HI2 := hide_of (HI.out.below hbw)
  have HT2 := hide_of (HT.out.on hbw)
  clear hf4 hs4 HS1 HC HN2 hb1 hb2 HI
  by_cases htot : 1048576 < 16 * n + 8 * n2
  · go_wp2
    go_ret
    exact ⟨rfl, hbw⟩
  by_cases htot2 : 1048576 < 16 * n + 8 * n2 + zs.length
  · go_wp2
    go_ret
    exact ⟨rfl, hbw⟩
  go_wp2
  go_loop [11, 12] (fun t i => ∃ k T : Nat, i = .int .i64 k ∧ t = .int .i64 T ∧ k ≤ n ∧ T ≤ 1048576) (fun _ i => n - (intOf i).toNat)
  case atStart => exact ⟨0, 16 * n + 8 * n2 + zs.length, rfl, by go_num, Nat.zero_le _, by omega⟩
  case round =>
  obtain ⟨kq, Tq, rfl, rfl, hkq, hTq⟩ := hrel
  by_cases hlt : kq < n
  · obtain ⟨bb, off, e1, hc1⟩ := HS2.out.at kq hlt
    have hs1 := HS.out kq hlt
    subst e1
    go_wp2
    · go_ret
      exact ⟨rfl, hbw⟩
    · go_round
      case rel => exact ⟨kq + 1, Tq + (S kq).size, by go_num, by go_num, by omega, by omega⟩
      case measure => simp [intOf]; omega
  obtain rfl : kq = n := by omega
  clear hkq hlt htot htot2
  by_cases hne : n2 ≠ kq
  · have hne' : ((n2 : Int) != (kq : Int)) = true := by simp; omega
    go_wp2
    go_ret
    exact ⟨rfl, hbw⟩
  obtain rfl : n2 = kq := by omega
  clear hne
  by_cases hk0 : kk < 0
  · go_wp2
    go_ret
    exact ⟨rfl, hbw⟩
  have hk0' : decide (kk < 0) = false := by simpa using hk0
  by_cases hk1 : (n2 : Int) < kk
  · go_wp2
    go_ret
    exact ⟨rfl, hbw⟩
  obtain ⟨k, rfl⟩ := Int.eq_ofNat_of_zero_le (Int.not_lt.1 hk0)
  have hkn : k ≤ n2 := by omega
  clear hk0 hk0' hk1
  obtain ⟨T, hT⟩ : ∃ T, T = textT S C n2 := ⟨_, rfl⟩
  obtain ⟨P, hP⟩ : ∃ P, P = textT S C k := ⟨_, rfl⟩
  obtain ⟨Q, hQ⟩ : ∃ Q, Q = textT (fun i => S (k + i)) (fun i => C (k + i)) (n2 - k) := ⟨_, rfl⟩
  have HTT := hide_of hT
  have HPP := hide_of hP
  have HQQ := hide_of hQ
  clear hT hP hQ
  go_wp2_with fail
  refine (clone_any a3 c3 zs w2 HI2.out HN3.out hm').mono ?_
  rintro e w3 ⟨vw, rfl, how, hb3⟩
  go_wp2_with fail
  refine (clone_any a3 c3 zs w3 (HI2.out.below hb3) HN3.out hm').mono ?_
  rintro e w4 ⟨vg, rfl, hog, hb4⟩
  have hbw3 : Below w.heap.size w w3 := hbw.trans (hb3.mono hbw.size)
  have hbw4 : Below w.heap.size w w4 := hbw3.trans (hb4.mono hbw3.size)
  have hb24 : Below w2.heap.size w2 w4 := hb3.trans (hb4.mono hb3.size)
  have hsz4 : ∀ i, i < n2 → (S i).size ≤ 1048576 ∧ C i < 18446744073709551616 := fun i hi => ⟨HS.out i hi, HU.out i hi⟩
  have HSZ := hide_of hsz4
  clear hsz4
  go_wp2_with fail
  refine (zz_to w3.heap.size zs.length n2 c1 c4 a1 a4 vg (zs.map (Value.int .u8)) S C T HTT.out w4 hog hb4.size (HS2.out.below hb24) (HC4.out.below hb24) HSZ.out hn' hm' (tab_mono (HT.out.on hbw4) hbw3.size)).mono ?_
  rintro e w5 ⟨vo, rfl, hoo, hfo⟩
  have hb45 := hfo.1
  have hb35 : Below w3.heap.size w3 w5 := hb4.trans hb45
  have hb25 : Below w2.heap.size w2 w5 := hb3.trans (hb35.mono hb3.size)
  have hbw5 : Below w.heap.size w w5 := hbw3.trans (hb35.mono hbw3.size)
  have HW5 := hide_of (own_below how hb35)
  have HO5 := hide_of hoo
  have HS5 := hide_of (HS2.out.below hb25)
  have HC5 := hide_of (HC4.out.below hb25)
  have HT5 := hide_of (tab_mono (HT.out.on hbw5) hbw5.size)
  clear hog hoo how hfo hb45 hb35 hb25 hb4 hb24 hbw4 hbw3 hbw hb3 HS2 HC4 HT2 HI2 HN3
  have h22h := slice_hi (k := k) Tryd.underlying22 rfl hsz9 HF1.out hkn
  have h23h := slice_hi (k := k) Tryd.underlying23 rfl hsz31 HF4.out hkn
  have h22l := slice_lo (a := a1) (c := c1) (k := k) Tryd.underlying22 rfl hsz9 hkn
  have h23l := slice_lo (a := a4) (c := c4) (k := k) Tryd.underlying23 rfl hsz31 hkn
  generalize hA1 : (if c1 = k then a1 else a1.map (·.add k)) = b1 at h22l
  generalize hA4 : (if c4 = k then a4 else a4.map (·.add k)) = b4 at h23l
  have HSL := hide_of (HS5.out.lo HF1.out hkn)
  have HCL := hide_of (HC5.out.lo HF4.out hkn)
  rw [hA1] at HSL
  rw [hA4] at HCL
  clear hA1 hA4
  generalize hnk : n2 - k = nk at h22l h23l HSL HCL HQQ
  generalize hck1 : c1 - k = ck1 at h22l
  generalize hck4 : c4 - k = ck4 at h23l
  have HNK := hide_of hnk
  clear hnk hck1 hck4
  go_upto_region 37 with fail
  go_cut [17] (fun s17 wx => wx.ownsRow w5.heap.size 5 1 s17 (0 + P.length) ([] ++ byteCells P) ∧ Below w5.heap.size w5 wx)
  case first =>
    have hct := zz_to w5.heap.size 0 k c1 c4 a1 a4 (.slice none 0 0) [] S C P HPP.out w5.drew (World.ownsRow_nil _ _ _ _) (Nat.le_refl _) (by exact HS5.out.hi hkn) (by exact HC5.out.hi hkn) (fun i hi => HSZ.out i (by omega)) (by omega) (by omega) (HT5.out.on (Below.refl _ _).drew)
    go_region_with (go_at_call 6; refine hct.mono ?_; rintro e w6 ⟨vp, rfl, hop, hfp⟩)
    all_goals
      go_wp2_with fail
      go_meet
      exact ⟨hop, (Below.refl _ _).drew.trans hfp.1⟩
  case rest =>
  obtain ⟨hop, hb56⟩ := hcut
  rename World => w6
  have HP6 := hide_of hop
  clear hop
  go_upto_region 38 with fail
  go_cut [18] (fun s18 wx => wx.ownsRow w6.heap.size 5 1 s18 (0 + Q.length) ([] ++ byteCells Q) ∧ Below w6.heap.size w6 wx)
  case first =>
    have hct := zz_to w6.heap.size 0 nk ck1 ck4 b1 b4 (.slice none 0 0) [] (fun i => S (k + i)) (fun i => C (k + i)) Q HQQ.out w6.drew (World.ownsRow_nil _ _ _ _) (Nat.le_refl _) (by exact HSL.out.below hb56.drew) (by exact HCL.out.below hb56.drew) (fun i hi => HSZ.out (k + i) (by have := HNK.out; omega)) (by have := HNK.out; omega) (by omega) ((tab_mono (HT5.out.on hb56) hb56.size).on (Below.refl _ _).drew)
    go_region_with (go_at_call 6; refine hct.mono ?_; rintro e w7 ⟨vq, rfl, hoq, hfq⟩)
    all_goals
      go_wp2_with fail
      go_meet
      exact ⟨hoq, (Below.refl _ _).drew.trans hfq.1⟩
  case rest =>
  obtain ⟨hoq, hb67⟩ := hcut
  rename World => w7
  have hb57 : Below w5.heap.size w5 w7 := hb56.trans (hb67.mono hb56.size)
  have hbw7 : Below w.heap.size w w7 := hbw5.trans (hb57.mono hbw5.size)
  have hTl := text_len S C n2 hn' HSZ.out
  have hPl := text_len S C k (by omega) (fun i hi => HSZ.out i (by omega))
  have hQl := text_len (fun i => S (k + i)) (fun i => C (k + i)) nk (by have := HNK.out; omega) (fun i hi => HSZ.out (k + i) (by have := HNK.out; omega))
  rw [← HTT.out] at hTl
  rw [← HPP.out] at hPl
  rw [← HQQ.out] at hQl
  obtain ⟨aw, cw, rfl, hwant⟩ := owned_in (own_below HW5.out hb57)
  obtain ⟨go, co, rfl, hco, hbo, hoc⟩ := owned_byts (own_below HO5.out hb57) (by simp) (by omega)
  obtain ⟨L, hL⟩ : ∃ L, P.length = L + 1 := ⟨P.length - 1, by omega⟩
  obtain ⟨gp, cp, e17, hbp⟩ := owned_byts0 (own_below HP6.out hb67) (by omega)
  obtain ⟨gq, cq, e18, hbq⟩ := owned_byts0 hoq (by omega)
  rw [hL] at e17
  subst e17
  subst e18
  have HWA := hide_of hwant
  have HBO := hide_of hbo
  have HOC := hide_of hoc
  have HBP := hide_of hbp
  have HBQ := hide_of hbq
  have HS7 := hide_of (HS5.out.below hb57)
  have HC7 := hide_of (HC5.out.below hb57)
  have HSL7 := hide_of (HSL.out.below hb57)
  have HCL7 := hide_of (HCL.out.below hb57)
  have HL := hide_of hL
  have hL1 : L ≤ 1000000000000 := by omega
  have hU : ∀ i, i < n2 → C i < 18446744073709551616 := HU.out
  have HU2 := hide_of hU
  clear hU hwant hbo hoc hbp hbq HW5 HO5 HP6 hoq hb67 hb56 hb57 HS5 HC5 HSL HCL hL
  have h24 : ∀ w : World, (Instr.slice 24 (.slice (some ⟨go, 0, none⟩) (zs.length + T.length) co) (some (.int .i64 (zs.length : Int))) none none).run Tryd.prog w = .ok (.slice (some ⟨go, zs.length, none⟩) T.length (co - zs.length)) w := tail_slice go co zs.length T.length hsz5 (by omega)
  have hlt0 : decide ((zs.length : Int) + (T.length : Int) < (zs.length : Int)) = false := decide_eq_false (by omega)
  clear hPl
  go_wp2_with fail
  go_loopw [19] (fun i wr => ∃ j : Nat, i = .int .i64 j ∧ j ≤ zs.length ∧ Below w7.heap.size w7 wr) (fun i _ => zs.length - (intOf i).toNat)
  case atStart => exact ⟨0, rfl, Nat.zero_le _, Below.refl _ _⟩
  case round =>
  obtain ⟨j, rfl, hj, hbr⟩ := hrel
  by_cases hlt : j < zs.length
  · obtain ⟨gw, e1, hcw⟩ := HWA.out j hlt
    subst e1
    have hco1 := HOC.out j hlt
    rw [ints_at zs j hlt] at hcw hco1
    rw [← hbr.cell (World.block_lt_of_cell? _ _ hcw)] at hcw
    rw [← hbr.cell (World.block_lt_of_cell? _ _ hco1)] at hco1
    generalize zs.getD j 0 = zj at hcw hco1
    have hl1 : (j : Int) < (zs.length : Int) := by omega
    have hl2 : (j : Int) < (zs.length : Int) + (T.length : Int) := by omega
    go_wp2_with fail
    go_quiet (fail)
    go_wp2_with fail
    go_roundw
    case rel => exact ⟨j + 1, by go_num, by omega, below_drewN hbr _⟩
    case measure => simp [intOf]; omega
  obtain rfl : j = zs.length := by omega
  clear hj hlt HWA HOC hlt0
  rename World => wz
  have HBO2 := hide_of (HBO.out.below hbr)
  have HBP2 := hide_of (HBP.out.below hbr)
  have HBQ2 := hide_of (HBQ.out.below hbr)
  have HS8 := hide_of (HS7.out.below hbr)
  have HC8 := hide_of (HC7.out.below hbr)
  have HSL8 := hide_of (HSL7.out.below hbr)
  have HCL8 := hide_of (HCL7.out.below hbr)
  have hbwr : Below w.heap.size w wz := hbw7.trans (hbr.mono hbw7.size)
  clear HBO HBP HBQ HS7 HC7 HSL7 HCL7 hbr
  go_wp2_with fail
  refine (back_to go zs.length _ n2 c1 c4 T.length a1 a4 T S C _ rfl HBO2.out HTT.out (by omega) HS8.out HC8.out HU2.out (by omega)).mono ?_
  rintro e w8 ⟨rfl, hw⟩
  have hw2 := hw.symm
  clear hw
  subst hw2
  go_wp2_with fail
  go_quiet ((go_at_call 7; exact Calls.quiet_of_same (back_to gp 0 cp k c1 c4 (L + 1) a1 a4 P S C _ HL.out (by exact HBP2.out) HPP.out (by rw [HL.out]; omega) (by exact HS8.out.hi hkn) (by exact HC8.out.hi hkn) (fun i hi => HU2.out i (by omega)) (by omega))))
  generalize hwy : wz.drewN nq = wy
  have HBO3 : Hid (Byts wy go zs.length T) := by rw [← hwy]; exact HBO2.out
  have HBP3 : Hid (Byts wy gp 0 P) := by rw [← hwy]; exact HBP2.out
  have HBQ3 : Hid (Byts wy gq 0 Q) := by rw [← hwy]; exact HBQ2.out
  have HSL9 : Hid (Strs wy b1 nk fun i => S (k + i)) := by rw [← hwy]; exact HSL8.out
  have HCL9 : Hid (Nums wy b4 nk fun i => C (k + i)) := by rw [← hwy]; exact HCL8.out
  have hbwy : Below w.heap.size w wy := by rw [← hwy]; exact below_drewN hbwr _
  clear hwy HBO2 HBP2 HBQ2 HSL8 HCL8 HS8 HC8 hbwr
  go_wp2_with fail
  go_quiet ((go_at_call 7; exact Calls.quiet_of_same (back_to gq 0 cq nk ck1 ck4 Q.length b1 b4 Q (fun i => S (k + i)) (fun i => C (k + i)) _ rfl (by exact HBQ3.out) HQQ.out (by omega) (by exact HSL9.out) (by exact HCL9.out) (fun i hi => HU2.out (k + i) (by have := HNK.out; omega)) (by have := HNK.out; omega))))
  by_cases hk00 : k = 0
  · have eQ : Q = T := by rw [HQQ.out, HTT.out, ← HNK.out]; subst hk00; simp
    have HEQ := hide_of eQ
    subst hk00
    clear eQ
    go_wp2_with fail
    refine (same_to go zs.length _ gq 0 cq T.length Q.length T _ rfl (by rw [HEQ.out]) (by exact HBO3.out) (by have := HBQ3.out; rw [HEQ.out] at this; exact this) (by omega)).mono ?_
    rintro e w9 ⟨rfl, hb9⟩
    go_wp2_with fail
    go_ret
    exact ⟨rfl, hbwy.trans ((below_zz hb9).mono hbwy.size)⟩
  have hk01 : ((k : Int) == 0) = false := by simp; omega
  by_cases hkn0 : k = n2
  · have eP : P = T := by rw [HPP.out, HTT.out, hkn0]
    have HEP := hide_of eP
    clear eP
    have hk02 : ((k : Int) == (n2 : Int)) = true := by simp; omega
    go_wp2_with fail
    refine (same_to go zs.length _ gp 0 cp T.length (L + 1) T _ rfl (by rw [← HEP.out]; exact HL.out) (by exact HBO3.out) (by have := HBP3.out; rw [HEP.out] at this; exact this) (by omega)).mono ?_
    rintro e w9 ⟨rfl, hb9⟩
    go_wp2_with fail
    go_ret
    exact ⟨rfl, hbwy.trans ((below_zz hb9).mono hbwy.size)⟩
  have hk02 : ((k : Int) == (n2 : Int)) = false := by simp; omega
  obtain ⟨hTL, hT1, hT2, hT3⟩ := text_cut S C k nk (by omega) (by have := HNK.out; omega) T P Q (by rw [HTT.out]; congr 1; have := HNK.out; omega) HPP.out HQQ.out L HL.out
  have HT1 := hide_of hT1
  have HT3 := hide_of hT3
  have HTL := hide_of hTL
  have hTL1 : ((T.length : Int) != (L : Int) + (Q.length : Int)) = false := by simp; omega
  have hTL2 : (T.length : Int) = (L : Int) + (Q.length : Int) := by omega
  have HTL2 := hide_of hTL2
  have hcL := HBO3.out L (by omega)
  rw [hT2] at hcL
  have HCL := hide_of hcL
  clear hT1 hT3 hT2 hTL hTL2 hcL
  go_wp2_with fail
  go_loopw [22] (fun i wx => ∃ j : Nat, i = .int .i64 j ∧ j ≤ L ∧ Below wy.heap.size wy wx) (fun i _ => L - (intOf i).toNat)
  case atStart => exact ⟨0, rfl, Nat.zero_le _, below_drewN (Below.refl _ _) _⟩
  case round =>
  obtain ⟨j, rfl, hj, hbr⟩ := hrel
  by_cases hlt : j < L
  · have hc1 := HBO3.out j (by have := HTL.out; omega)
    have hc2 := HBP3.out j (by have := HL.out; omega)
    rw [HT1.out j hlt] at hc1
    rw [← hbr.cell (World.block_lt_of_cell? _ _ hc1)] at hc1
    rw [← hbr.cell (World.block_lt_of_cell? _ _ hc2), Nat.zero_add] at hc2
    generalize (P.getD j 0).toNat = gj at hc1 hc2
    have hl1 : (j : Int) < (T.length : Int) := by have := HTL2.out; omega
    have hl2 : (j : Int) < (L : Int) + 1 := by omega
    have hl3 : (j : Int) < (L : Int) := by omega
    go_wp2_with fail
    go_quiet (fail)
    go_wp2_with fail
    go_roundw
    case rel => exact ⟨j + 1, by go_num, by omega, below_drewN hbr _⟩
    case measure => simp [intOf]; omega
  obtain rfl : j = L := by omega
  have hcL2 : wr.cell? ⟨go, zs.length + j, none⟩ = some (.int .u8 44) := by
    have h := HCL.out
    rw [hbr.cell (World.block_lt_of_cell? _ _ h)]
    exact h
  have hlL : (j : Int) < (T.length : Int) := by have := HTL2.out; omega
  rename World => w9
  clear hj hlt HCL HT1
  go_wp2_with fail
  go_loopw [23] (fun i wx => ∃ q : Nat, i = .int .i64 q ∧ 1 ≤ q ∧ q ≤ Q.length ∧ Below wy.heap.size wy wx) (fun i _ => Q.length - (intOf i).toNat)
  case atStart => exact ⟨1, rfl, Nat.le_refl _, by omega, hbr⟩
  case round =>
  clear hcL2 hbr
  obtain ⟨q, rfl, hq1, hq2, hbr⟩ := hrel
  by_cases hlt : q < Q.length
  · have hc1 := HBO3.out (j + q) (by have := HTL.out; omega)
    have hc2 := HBQ3.out q hlt
    rw [HT3.out q hq1 hlt] at hc1
    rw [← hbr.cell (World.block_lt_of_cell? _ _ hc1)] at hc1
    rw [← hbr.cell (World.block_lt_of_cell? _ _ hc2), Nat.zero_add] at hc2
    generalize (Q.getD q 0).toNat = gj at hc1 hc2
    have hl1 : (j : Int) + (q : Int) < (T.length : Int) := by have := HTL2.out; omega
    have hl2 : (q : Int) < (Q.length : Int) := by omega
    go_wp2_with fail
    go_quiet (fail)
    go_wp2_with fail
    go_roundw
    case rel => exact ⟨q + 1, by go_num, by omega, by omega, below_drewN hbr _⟩
    case measure => simp [intOf]; omega
  obtain rfl : q = Q.length := by omega
  go_wp2_with fail
  go_ret
  exact ⟨rfl, hbwy.trans (hbr.mono hbwy.size)⟩
end Go.Proofs.Qxb6619220aDoor
