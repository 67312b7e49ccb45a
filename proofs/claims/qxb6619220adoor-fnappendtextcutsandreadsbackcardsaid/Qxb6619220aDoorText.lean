/-
  The walks of 'strconv.AppendUint' (13), 'appendText' (9), 'ZZAppendText' (6).
-/
import Derived.Test.Qxb6619220aDoorWrite
namespace Go.Proofs.Qxb6619220aDoor
open Go.RowKit Pl
open Go.Lib (byteCells)

set_option maxHeartbeats 1000000 in
theorem uint_any (B n u : Nat) (v : Value) (xs : List Value) (w : World) (hown : w.ownsRow B 5 1 v n xs) (hb : B ≤ w.heap.size) (hu : u < 18446744073709551616) (hn : n ≤ 70368744177664)
    (htab : Lib.TabIs Tryd.prog w powName .u64 Lib.pow10Tab) : Calls Tryd.prog 13 #[v, .int .u64 u, .int .i64 10] w (App B n xs (Lib.decDigits u) w) := by
  have H : Hid _ := Tryd.internal_strconv_AppendUint_10 B n u hu v xs w hown hb (by omega) htab
  clear hown htab
  go_enter Tryd.func13, Tryd.ntmps13
  go_wp2_with fail
  refine Calls.mono H.out ?_
  rintro e w' ⟨v', rfl, h1, h2, h3⟩
  go_wp2
  go_ret
  exact ⟨v', rfl, h1, h2, h3⟩

/-- m entries lie in block g. -/
def Ents (w : World) (g m : Nat) (S : Nat → ByteArray) (C : Nat → Nat) : Prop :=
  ∃ cs : Array Value, w.heap[g]? = some (.cells cs 33 (0, 0)) ∧ cs.size = m * 2 ∧ ∀ i, i < m → cs[i * 2]? = some (.string (S i)) ∧ cs[i * 2 + 1]? = some (.int .u64 (C i))

theorem Ents.at {w : World} {g m : Nat} {S : Nat → ByteArray} {C : Nat → Nat} (h : Ents w g m S C) (i : Nat) (hi : i < m) : w.cell? ⟨g, i * 2, none⟩ = some (.string (S i)) ∧ w.cell? ⟨g, i * 2 + 1, none⟩ = some (.int .u64 (C i)) := by
  obtain ⟨cs, hg, _, hcs⟩ := h
  rw [cell_of_row w _ _ cs 33 (0, 0) hg, cell_of_row w _ _ cs 33 (0, 0) hg]
  exact hcs i hi

theorem Ents.kept {w w' : World} {g m : Nat} {S : Nat → ByteArray} {C : Nat → Nat} (h : Ents w g m S C) (hk : Lib.OthersKept 5 none w w') : Ents w' g m S C := by
  obtain ⟨cs, hg, hr⟩ := h
  exact ⟨cs, hk g _ hg (by simp) (by intro c fz; simp), hr⟩

theorem box_kept {w w' : World} {b : Nat} {x : Value} (h : w.heap[b]? = some (.cells #[x] 35 (0, 0))) (hk : Lib.OthersKept 5 none w w') : w'.cell? ⟨b, 0, none⟩ = some x := by
  have h2 := hk b _ h (by simp) (by intro c fz; simp)
  rw [cell_of_row w' b 0 _ 35 (0, 0) h2]
  rfl

theorem ents_bound (S : Nat → ByteArray) (C : Nat → Nat) (k : Nat) (hk : k ≤ 65536) (h : ∀ i, i < k → (S i).size ≤ 1048576 ∧ C i < 18446744073709551616) : (entsTo S C k).length ≤ 412400000000 := by
  have h1 := entsTo_len S C 1048576 k h
  omega

theorem box33_kept {w w' : World} {b : Nat} {x y : Value} (h : w.heap[b]? = some (.cells #[x, y] 33 (0, 0))) (hk : Lib.OthersKept 5 none w w') : w'.heap[b]? = some (.cells #[x, y] 33 (0, 0)) :=
  hk b _ h (by simp) (by intro c fz; simp)

theorem box33_cell {w : World} {b : Nat} {x y : Value} (h : w.heap[b]? = some (.cells #[x, y] 33 (0, 0))) : w.cell? ⟨b, 0, none⟩ = some x ∧ w.cell? ⟨b, 1, none⟩ = some y := by
  rw [cell_of_row w b 0 _ 33 (0, 0) h, cell_of_row w b 1 _ 33 (0, 0) h]
  exact ⟨rfl, rfl⟩

theorem own_app {w : World} {B n : Nat} {v : Value} {xs : List Value} {L M N : List UInt8} (h : w.ownsRow B 5 1 v (n + L.length + M.length) ((xs ++ byteCells L) ++ byteCells M)) (e : L ++ M = N) : w.ownsRow B 5 1 v (n + N.length) (xs ++ byteCells N) := by
  subst e
  have e1 : n + (L ++ M).length = n + L.length + M.length := by simp; omega
  have e2 : xs ++ byteCells (L ++ M) = (xs ++ byteCells L) ++ byteCells M := by simp [byteCells]
  rw [e1, e2]
  exact h

set_option maxHeartbeats 4000000 in
theorem text_any (B n m g : Nat) (v : Value) (xs : List Value) (S : Nat → ByteArray) (C : Nat → Nat) (w : World) (hown : w.ownsRow B 5 1 v n xs) (hb : B ≤ w.heap.size) (hE : Ents w g m S C)
    (hsz : ∀ i, i < m → (S i).size ≤ 1048576 ∧ C i < 18446744073709551616) (hm : m ≤ 65536) (hn : n ≤ 1048576) (htab : Lib.TabBelow Tryd.prog B w powName .u64 Lib.pow10Tab) :
    Calls Tryd.prog 9 #[.agg #[.slice (some ⟨g, 0, none⟩) m m], v] w (App B n xs (textT S C m) w) := by
  obtain ⟨i0, hi, hz0, hz1, hz2⟩ := info_parts Tryd.info5
  have HO : Hid (w.ownsRow B 5 1 v n xs) := hown
  have HE : Hid (Ents w g m S C) := hE
  have HS : Hid (∀ i, i < m → (S i).size ≤ 1048576 ∧ C i < 18446744073709551616) := hsz
  have HT : Hid (Lib.TabBelow Tryd.prog B w powName .u64 Lib.pow10Tab) := htab
  clear hown hE hsz htab
  go_enter Tryd.func9, Tryd.ntmps9
  go_wp2_with (at_builtin; refine wpList_append_own _ rfl (.tmp 7) (.tmp 8) 24 rfl B 5 i0 (.int .u8 0) 1 1 Tryd.underlying24 hi hz0 hz1 hz2 rfl (by decide) v n xs rfl ((HO.out.alloc _).alloc _) ⟨w.heap.size + 1, 0, none⟩ 1 1 [.int .u8 123] rfl rfl (news_new (by simp)) (cells_one [123]) (by unfold maxLen; omega) (by omega) (by simp; omega) ?_; intro v1 w1 hown1 hgrow1 _; have hf0 : Fr B w (w.alloc (Obj.cells #[Value.slice (some ⟨g, 0, none⟩) m m] 35)) := (Fr.refl _ _).alloc hb _; have hf1 : Fr B w w1 := (hf0.alloc (by simp; omega) _).grown ((HO.out.alloc _).alloc _) hgrow1 (by simp; omega); have hbx : w1.cell? ⟨w.heap.size, 0, none⟩ = some (.slice (some ⟨g, 0, none⟩) m m) := box_kept (heap_alloc_new w _) (((Lib.OthersKept.refl _ _ _).alloc _).grown hgrow1 (Lib.ownsRow_kind ((HO.out.alloc _).alloc _))); clear hgrow1 hf0)
  go_loopw [1, 13] (fun d i wr => ∃ k : Nat, i = .int .i64 k ∧ k ≤ m ∧ wr.ownsRow B 5 1 d (n + (123 :: entsTo S C k).length) (xs ++ byteCells (123 :: entsTo S C k)) ∧ Fr B w wr) (fun _ i _ => m - (intOf i).toNat)
  case atStart => exact ⟨0, rfl, Nat.zero_le _, by simpa [entsTo, byteCells] using hown1, hf1⟩
  case round =>
    clear hown1 hf1 hbx
    obtain ⟨k, rfl, hk, hd, hfr⟩ := hrel
    have HD : Hid (wr.ownsRow B 5 1 u1 (n + (123 :: entsTo S C k).length) (xs ++ byteCells (123 :: entsTo S C k))) := hd
    have hlen : (entsTo S C k).length ≤ 412400000000 := ents_bound S C k (by omega) (fun i hi => HS.out i (by omega))
    have hcl : (123 :: entsTo S C k).length = (entsTo S C k).length + 1 := rfl
    have hbs := hfr.1.size
    clear hd
    by_cases hlt : k < m
    · obtain ⟨hc1, hc2⟩ := (HE.out.kept hfr.2).at k hlt
      obtain ⟨hs1, hs2⟩ := HS.out k hlt
      have hl1 : (k : Int) < (m : Int) := by omega
      have hel := entT_len (S k).data.toList (C k) hs2
      have hsl : (S k).data.toList.length = (S k).size := by simp
      have hnl : (nameT (S k).data.toList).length ≤ 6 * (S k).size + 2 := by have := escS_len (S k).data.toList; rw [nameT_len]; omega
      have hdl := decDigits_le (C k) hs2
      rw [hsl] at hel
      clear hsl
      by_cases hk0 : k = 0
      · subst hk0
        simp only [Nat.zero_mul, Nat.zero_add] at hc1 hc2
        have hcm : comma 0 = [] := rfl
        have HL0 : Hid (123 :: entsTo S C (0 + 1) = ((123 :: entsTo S C 0) ++ nameT (S 0).data.toList) ++ [58] ++ Lib.decDigits (C 0)) := by show _ = _; simp [entsTo, hcm, entT]
        clear hcm
        go_wp2_with fail
        have hf1 : Fr B w (wr.alloc (Obj.cells #[Value.string (S 0), Value.int .u64 (C 0)] 33)) := hfr.alloc (by omega) _
        have hbx0 := box33_kept (heap_alloc_new wr (Obj.cells #[Value.string (S 0), Value.int .u64 (C 0)] 33)) (Lib.OthersKept.refl 5 none _)
        have HO1 := hide_of (HD.out.alloc (Obj.cells #[Value.string (S 0), Value.int .u64 (C 0)] 33))
        refine (actor_any B _ _ _ (S 0) _ HO1.out (by simp; omega) hs1 (by omega)).mono ?_
        rintro e w3 ⟨v3, rfl, hown3, hf3⟩
        have hbx3 := box33_kept hbx0 hf3.2
        have hbc3 := (box33_cell hbx3).2
        have HO3 : Hid (w3.ownsRow B 5 1 v3 (n + ((123 :: entsTo S C 0) ++ nameT (S 0).data.toList).length) (xs ++ byteCells ((123 :: entsTo S C 0) ++ nameT (S 0).data.toList))) := own_app hown3 rfl
        have hl3 : ((123 :: entsTo S C 0) ++ nameT (S 0).data.toList).length ≤ (entsTo S C 0).length + 2 + (6 * (S 0).size + 2) := by rw [List.length_append]; omega
        have hf3b : Fr B w w3 := hf1.trans hf3
        have hbs3 := hf3b.1.size
        clear hown3 hbx0 HO1 hf3
        go_wp2_with (at_builtin; refine wpList_append_own _ rfl (.tmp 27) (.tmp 28) 24 rfl B 5 i0 (.int .u8 0) 1 1 Tryd.underlying24 hi hz0 hz1 hz2 rfl (by decide) v3 _ _ rfl (HO3.out.alloc _) ⟨w3.heap.size, 0, none⟩ 1 1 [.int .u8 58] rfl rfl (news_new (by simp)) (cells_one [58]) (by unfold maxLen; omega) (by omega) (by simp; omega) ?_; intro v4 w4 hown4 hgrow4 _; have hf4 : Fr B w w4 := (hf3b.alloc (by omega) _).grown (HO3.out.alloc _) hgrow4 (by simp; omega); have hbc4 := (box33_cell (box33_kept hbx3 (((Lib.OthersKept.refl _ _ _).alloc _).grown hgrow4 (Lib.ownsRow_kind (HO3.out.alloc _))))).2; have HO4 : Hid (w4.ownsRow B 5 1 v4 (n + (((123 :: entsTo S C 0) ++ nameT (S 0).data.toList) ++ [58]).length) (xs ++ byteCells (((123 :: entsTo S C 0) ++ nameT (S 0).data.toList) ++ [58]))) := own_app (M := [58]) hown4 rfl; clear hown4 hgrow4 hbc3 hbx3)
        have hbs4 := hf4.1.size
        have hl4 : (((123 :: entsTo S C 0) ++ nameT (S 0).data.toList) ++ [58]).length = ((123 :: entsTo S C 0) ++ nameT (S 0).data.toList).length + 1 := by simp only [List.length_append, List.length_cons, List.length_nil]
        refine (uint_any B _ (C 0) v4 _ _ HO4.out (by omega) hs2 (by omega) (HT.out w4 hf4.1)).mono ?_
        rintro e w5 ⟨v5, rfl, hown5, hf5⟩
        have HO5 : Hid (w5.ownsRow B 5 1 v5 (n + (123 :: entsTo S C (0 + 1)).length) (xs ++ byteCells (123 :: entsTo S C (0 + 1)))) := own_app hown5 HL0.out.symm
        have hf5b : Fr B w w5 := hf4.trans hf5
        clear hown5 hf5 hbc4 HO4
        go_wp2
        go_roundw
        case rel => exact ⟨0 + 1, by go_num, by omega, HO5.out, hf5b⟩
        case measure => simp [intOf]; omega
      · have hkd : 0 < k := by omega
        have hcm : comma k = [44] := by unfold comma; rw [if_neg hk0]
        have HL0 : Hid (123 :: entsTo S C (k + 1) = (((123 :: entsTo S C k) ++ [44]) ++ nameT (S k).data.toList) ++ [58] ++ Lib.decDigits (C k)) := by show _ = _; simp [entsTo, hcm, entT]
        clear hcm
        have hcl2 : ((123 :: entsTo S C k) ++ [44]).length = (entsTo S C k).length + 2 := by simp
        go_wp2_with (at_builtin; refine wpList_append_own _ rfl (.tmp 20) (.tmp 21) 24 rfl B 5 i0 (.int .u8 0) 1 1 Tryd.underlying24 hi hz0 hz1 hz2 rfl (by decide) u1 _ _ rfl ((HD.out.alloc _).alloc _) ⟨wr.heap.size + 1, 0, none⟩ 1 1 [.int .u8 44] rfl rfl (news_new (by simp)) (cells_one [44]) (by unfold maxLen; omega) (by omega) (by simp; omega) ?_; intro v2 w2 hown2 hgrow2 _; have hf1 : Fr B w w2 := ((hfr.alloc (by omega) _).alloc (by simp; omega) _).grown ((HD.out.alloc _).alloc _) hgrow2 (by simp; omega); have hbx0 : w2.heap[wr.heap.size]? = some (.cells #[.string (S k), .int .u64 (C k)] 33 (0, 0)) := box33_kept (heap_alloc_new wr _) (((Lib.OthersKept.refl _ _ _).alloc _).grown hgrow2 (Lib.ownsRow_kind ((HD.out.alloc _).alloc _))); have hbc := (box33_cell hbx0).1; have HO1 : Hid (w2.ownsRow B 5 1 v2 (n + ((123 :: entsTo S C k) ++ [44]).length) (xs ++ byteCells ((123 :: entsTo S C k) ++ [44]))) := own_app (M := [44]) hown2 rfl; clear hown2 hgrow2)
        clear hbc
        have hbs2 := hf1.1.size
        refine (actor_any B _ v2 _ (S k) _ HO1.out (by omega) hs1 (by omega)).mono ?_
        rintro e w3 ⟨v3, rfl, hown3, hf3⟩
        have hbx3 := box33_kept hbx0 hf3.2
        have hbc3 := (box33_cell hbx3).2
        have HO3 : Hid (w3.ownsRow B 5 1 v3 (n + (((123 :: entsTo S C k) ++ [44]) ++ nameT (S k).data.toList).length) (xs ++ byteCells (((123 :: entsTo S C k) ++ [44]) ++ nameT (S k).data.toList))) := own_app hown3 rfl
        have hl3 : (((123 :: entsTo S C k) ++ [44]) ++ nameT (S k).data.toList).length ≤ (entsTo S C k).length + 2 + (6 * (S k).size + 2) := by rw [List.length_append]; omega
        have hf3b : Fr B w w3 := hf1.trans hf3
        have hbs3 := hf3b.1.size
        clear hown3 hbx0 HO1 hf3
        go_wp2_with (at_builtin; refine wpList_append_own _ rfl (.tmp 27) (.tmp 28) 24 rfl B 5 i0 (.int .u8 0) 1 1 Tryd.underlying24 hi hz0 hz1 hz2 rfl (by decide) v3 _ _ rfl (HO3.out.alloc _) ⟨w3.heap.size, 0, none⟩ 1 1 [.int .u8 58] rfl rfl (news_new (by simp)) (cells_one [58]) (by unfold maxLen; omega) (by omega) (by simp; omega) ?_; intro v4 w4 hown4 hgrow4 _; have hf4 : Fr B w w4 := (hf3b.alloc (by omega) _).grown (HO3.out.alloc _) hgrow4 (by simp; omega); have hbc4 := (box33_cell (box33_kept hbx3 (((Lib.OthersKept.refl _ _ _).alloc _).grown hgrow4 (Lib.ownsRow_kind (HO3.out.alloc _))))).2; have HO4 : Hid (w4.ownsRow B 5 1 v4 (n + ((((123 :: entsTo S C k) ++ [44]) ++ nameT (S k).data.toList) ++ [58]).length) (xs ++ byteCells ((((123 :: entsTo S C k) ++ [44]) ++ nameT (S k).data.toList) ++ [58]))) := own_app (M := [58]) hown4 rfl; clear hown4 hgrow4 hbc3 hbx3)
        have hbs4 := hf4.1.size
        have hl4 : ((((123 :: entsTo S C k) ++ [44]) ++ nameT (S k).data.toList) ++ [58]).length = (((123 :: entsTo S C k) ++ [44]) ++ nameT (S k).data.toList).length + 1 := by simp only [List.length_append, List.length_cons, List.length_nil]
        refine (uint_any B _ (C k) v4 _ _ HO4.out (by omega) hs2 (by omega) (HT.out w4 hf4.1)).mono ?_
        rintro e w5 ⟨v5, rfl, hown5, hf5⟩
        have HO5 : Hid (w5.ownsRow B 5 1 v5 (n + (123 :: entsTo S C (k + 1)).length) (xs ++ byteCells (123 :: entsTo S C (k + 1)))) := own_app hown5 HL0.out.symm
        have hf5b : Fr B w w5 := hf4.trans hf5
        clear hown5 hf5 hbc4 HO4
        go_wp2
        go_roundw
        case rel => exact ⟨k + 1, by go_num, by omega, HO5.out, hf5b⟩
        case measure => simp [intOf]; omega
    · obtain rfl : k = m := by omega
      go_wp2_with (at_builtin; refine wpList_append_own _ rfl (.tmp 35) (.tmp 36) 24 rfl B 5 i0 (.int .u8 0) 1 1 Tryd.underlying24 hi hz0 hz1 hz2 rfl (by decide) u1 _ _ rfl (HD.out.alloc _) ⟨wr.heap.size, 0, none⟩ 1 1 [.int .u8 125] rfl rfl (news_new (by simp)) (cells_one [125]) (by unfold maxLen; omega) (by omega) (by simp; omega) ?_; intro v2 w2 hown2 hgrow2 _)
      have hb2 : Fr B w w2 := (hfr.alloc (by omega) _).grown (HD.out.alloc _) hgrow2 (by simp; omega)
      go_ret
      exact ⟨v2, rfl, own_app (M := [125]) hown2 rfl, hb2⟩
end Go.Proofs.Qxb6619220aDoor
