/-
  The walk of 'appendCopies' (function 6) and of 'ZZappendCopies' (function 5).
-/
import Derived.Test.Qxb6618463aPlain
import Derived.Test.Qxb6618463aRows
import Derived.WalkKit
import Derived.WalkSpells
import Derived.WalkLawsBesides
import Derived.Deep.AppendLies
namespace Go.Proofs.Qxb6618463a
open Go.RowKit Pl

theorem Try.info5 : (Try.prog.info? 5).map (fun i => (i.zero, i.size, i.bytes)) = some (some (.int .u8 0), 1, 1) := by kernel_rfl

abbrev U (l : List Int) : List Value := l.map (Value.int .u8)

theorem owns_form {w : World} {base : Nat} {e : TypeId} {size : Nat} {v : Value} {n : Nat} {xs : List Value} (h : w.ownsRow base e size v n xs) : ∃ a cap, v = .slice a n cap := by
  rcases h.2 with ⟨rfl, rfl⟩ | ⟨g, cap, cur, rfl, _⟩
  · exact ⟨none, 0, rfl⟩
  · exact ⟨_, cap, rfl⟩

theorem news1 {W : World} {B : Nat} {x : Value} (h : W.cell? ⟨B, 0, none⟩ = some x) : ∀ j u, [x][j]? = some u → W.cell? ((⟨B, 0, none⟩ : Addr).add j) = some u := by
  intro j u hu
  match j, hu with
  | 0, hu => simp at hu; subst hu; simpa [Addr.add] using h

theorem cell_new0 {W : World} {B : Nat} {x : Value} {t : TypeId} (h : W.heap.size = B) : (W.alloc (.cells #[x] t)).cell? ⟨B, 0, none⟩ = some x := by
  subst h
  simp

theorem one1 (z : Int) : ∀ u ∈ [Value.int .u8 z], u.oneCell' = true := by intro u hu; simp at hu; subst hu; rfl

/-- A store into the row. -/
theorem stored1 {w : World} {base g n c : Nat} {zs : List Int} (h : w.ownsRow base 5 1 (.slice (some ⟨g, 0, none⟩) n c) n (U zs)) (j : Nat) (u : Int) :
    (w.setCell ⟨g, j, none⟩ (.int .u8 u)).ownsRow base 5 1 (.slice (some ⟨g, 0, none⟩) n c) n (U (zs.set j u)) := by
  have := (h.stored j (.int .u8 u)).1
  simpa [U, List.map_set] using this

/-- The row behind an append of one byte. -/
theorem grown1 {w : World} {base g c L : Nat} {zs zs' : List Int} {z : Int} (h : w.ownsRow base 5 1 (.slice (some ⟨g, 0, none⟩) (L + 1) c) (L + 1) (U zs ++ [.int .u8 z])) (hL : zs.length = L) (e : zs ++ [z] = zs') :
    L + 1 = zs'.length ∧ w.ownsRow base 5 1 (.slice (some ⟨g, 0, none⟩) zs'.length c) zs'.length (U zs') := by
  subst e
  have e1 : L + 1 = (zs ++ [z]).length := by simp [hL]
  refine ⟨e1, ?_⟩
  rw [← e1]
  simpa [U] using h

theorem bit_off (q : Int) (j : Nat) (hj : j < 4) : bits BinOp.or IntKind.u8 (128 + ↑(maskTo q j)) (2 ^ j % 256) = ((128 + maskTo q j + 2 ^ j : Nat) : Int) := by
  have hm := maskTo_lt q j
  have hp : (2 : Nat) ^ j ≤ 8 := by
    have : (2 : Nat) ^ j ≤ 2 ^ 3 := Nat.pow_le_pow_right (by decide) (by omega)
    omega
  have h := or_off j hj (maskTo q j) hm
  have e : ((2 : Int) ^ j % 256) = ((2 ^ j : Nat) : Int) := by
    have : ((2 : Int) ^ j) = ((2 ^ j : Nat) : Int) := by simp
    rw [this]; omega
  have e2 : (128 : Int) + ↑(maskTo q j) = ((128 + maskTo q j : Nat) : Int) := by omega
  rw [e, e2, u8_or_nat _ _ (by omega) (by omega), h]

theorem bit_size (q s : Int) (j : Nat) (hj : j < 3) : bits BinOp.or IntKind.u8 (128 + ↑(maskTo q 4) + 16 * ↑(maskTo s j)) (16 * 2 ^ j % 256) = ((128 + maskTo q 4 + 16 * maskTo s j + 16 * 2 ^ j : Nat) : Int) := by
  have hm := maskTo_lt s j
  have hq := maskTo_lt q 4
  have hp : (2 : Nat) ^ j ≤ 4 := by
    have : (2 : Nat) ^ j ≤ 2 ^ 2 := Nat.pow_le_pow_right (by decide) (by omega)
    omega
  have h := or_size j hj (maskTo q 4) (by omega) (maskTo s j) hm
  have e : (16 * (2 : Int) ^ j % 256) = ((16 * 2 ^ j : Nat) : Int) := by
    have : ((2 : Int) ^ j) = ((2 ^ j : Nat) : Int) := by simp
    rw [this]; omega
  have e2 : (128 : Int) + ↑(maskTo q 4) + 16 * ↑(maskTo s j) = ((128 + maskTo q 4 + 16 * maskTo s j : Nat) : Int) := by omega
  rw [e, e2, u8_or_nat _ _ (by omega) (by omega), h]

set_option maxHeartbeats 2000000 in
theorem copies_any (base : Nat) (v : Value) (xs : List Int) (offset n : Int) (w : World) (hown : w.ownsRow base 5 1 v xs.length (U xs)) (hb : base ≤ w.heap.size)
    (hx : xs.length ≤ 1048576) (hn : n ≤ 68719476736) (hn0 : -9223372036854775808 ≤ n) (ho0 : -9223372036854775808 ≤ offset) (ho1 : offset ≤ 9223372036854775807) :
    Calls Try.prog 6 #[v, .int .i64 offset, .int .i64 n] w fun e w' => ∃ v', e = .returned v' ∧ w'.ownsRow base 5 1 v' (xs ++ encTo offset n (want n)).length (U (xs ++ encTo offset n (want n))) ∧ Below base w w' := by
  obtain ⟨i0, hi, hz0, hz1, hz2⟩ := info_parts Try.info5
  go_enter Try.func6, Try.ntmps6
  go_wp2
  go_loopw [0, 1, 2] (fun d o m wr => ∃ k : Nat, ∃ q : Int, k ≤ want n ∧ m = .int .i64 (n - k * 16777215) ∧ o = .int .i64 q ∧ (k < want n → q = offAt offset k) ∧
      wr.ownsRow base 5 1 d (xs ++ encTo offset n k).length (U (xs ++ encTo offset n k)) ∧ Below base w wr)
    (fun _ _ m _ => (intOf m).toNat)
  case atStart => exact ⟨0, offset, Nat.zero_le _, by go_num, rfl, fun _ => (off_zero offset ho0 ho1).symm, by simpa [encTo] using hown, Below.refl _ _⟩
  case round =>
    obtain ⟨k, q, hk, rfl, rfl, hq, hd, hbel⟩ := hrel
    have hwi := want_iff n k
    have hwi1 := want_iff n (k + 1)
    have hwl := want_le n hn
    by_cases hlt : k < want n
    · have hpos : (0 : Int) < n - k * 16777215 := by omega
      have hq' := hq hlt
      subst hq'
      have hlen := encTo_len offset n k
      have hsz := hbel.size
      have hnx := off_next offset k
      have henc : encTo offset n (k + 1) = encTo offset n k ++ one (offAt offset k) (sizeAt n k) := rfl
      generalize hys : xs ++ encTo offset n k = ys at *
      have hyl : ys.length ≤ 1048576 + 8 * 4097 := by rw [← hys]; simp; omega
      have Henc : Hid (xs ++ encTo offset n (k + 1) = ys ++ one (offAt offset k) (sizeAt n k)) := by show _ = _; rw [henc, ← List.append_assoc, hys]
      generalize hqq : offAt offset k = q at *
      have Hq : Hid (wrap64 (q + 16777215) = offAt offset (k + 1)) := hnx
      have Hwi1 : Hid (k + 1 < want n ↔ ((k + 1 : Nat) : Int) * 16777215 < n) := hwi1
      clear hys hwi hwi1 hq hlen hqq hnx henc
      obtain ⟨a0, cap0, rfl⟩ := owns_form hd
      by_cases hbig : n - k * 16777215 ≤ 16777215
      · have hsA : sizeAt n k = n - (k : Int) * 16777215 := by simp [sizeAt, hbig]
        have HE : Hid (xs ++ encTo offset n (k + 1) = ys ++ one q (n - (k : Int) * 16777215)) := by have := Henc.out; rw [hsA] at this; exact this
        clear hsA Henc
        go_wp2_with (at_builtin; refine wpList_append_lies _ rfl (.tmp 21) (.tmp 22) 22 rfl base 5 i0 (.int .u8 0) 1 1 Try.underlying22 hi hz0 hz1 hz2 rfl (by decide) _ _ _ rfl (hd.alloc _) ⟨wr.heap.size, 0, none⟩ 1 1 [.int .u8 128] rfl rfl (cell_one_new _ _ _) (one1 _) (by omega) (by unfold maxLen; omega) (by omega) (by simp; omega) _ rfl ?_; intro g cap w1 hown1 hgrow1 hat1 hlt1)
        have hbel1 : Below base w w1 := (hbel.alloc (by omega) _).grown hgrow1 (by simp; omega) (fun k hk => (hd.lt k hk).1)
        have hs1 := grown1 (zs' := Row1 ys q 0) hown1 rfl (by simp [Row1, bytesTo, maskTo])
        clear hgrow1 hat1 hlt1 hd hown1
        go_loopw [0, 24] (fun d i wi => ∃ j g c : Nat, j ≤ 4 ∧ i = .int .i64 j ∧ d = .slice (some ⟨g, 0, none⟩) (Row1 ys q j).length c ∧
            wi.ownsRow base 5 1 (.slice (some ⟨g, 0, none⟩) (Row1 ys q j).length c) (Row1 ys q j).length (U (Row1 ys q j)) ∧ Below base w wi)
          (fun _ i _ => 4 - (intOf i).toNat)
        case atStart => exact ⟨0, g, cap, by omega, rfl, by rw [hs1.1], hs1.2, hbel1⟩
        case round =>
          clear hs1 hbel1
          obtain ⟨j, g, c, hj, rfl, rfl, hd2, hbel2⟩ := hrel
          obtain ⟨hrl1, hrl2⟩ := Row1_len ys q j hj
          have hsz2 := hbel2.size
          have hgb := (hd2.lt g rfl).1
          by_cases hj4 : j < 4
          · have hcell : wr.cell? ⟨g, ys.length, none⟩ = some (.int .u8 ((128 + maskTo q j : Nat) : Int)) := by
              rw [hd2.cellAt ys.length (by omega)]; simp [Row1_at]
            have hfr : wr.frozen? ⟨g, ys.length, none⟩ = false := hd2.frozenAt _
            go_wp2_with fail
            · have hne : ¬ byteAt q j = 0 := by
                have h : (q / 2 ^ (8 * j) % 256 != 0) = true := by assumption
                unfold byteAt; simpa using h
              go_region
              rw [bit_off q j hj4]
              have Hst : Hid ((wr.setCell ⟨g, ys.length, none⟩ (.int .u8 ((128 + maskTo q j + 2 ^ j : Nat) : Int))).ownsRow base 5 1 (.slice (some ⟨g, 0, none⟩) (Row1 ys q j).length c) (Row1 ys q j).length (U ((Row1 ys q j).set ys.length ((128 + maskTo q j + 2 ^ j : Nat) : Int)))) := stored1 hd2 _ _
              have Hhit : Hid ((Row1 ys q j).set ys.length ((128 + maskTo q j + 2 ^ j : Nat) : Int) ++ [q / 2 ^ (8 * j) % 256] = Row1 ys q (j + 1)) := Row1_hit hne
              generalize ((128 + maskTo q j + 2 ^ j : Nat) : Int) = bb at *
              go_wp2_with (at_builtin; refine wpList_append_lies _ rfl (.tmp 42) (.tmp 44) 22 rfl base 5 i0 (.int .u8 0) 1 1 Try.underlying22 hi hz0 hz1 hz2 rfl (by decide) (.slice (some ⟨g, 0, none⟩) (Row1 ys q j).length c) (Row1 ys q j).length (U ((Row1 ys q j).set ys.length bb)) rfl (by exact Hst.out.alloc _) ⟨wr.heap.size, 0, none⟩ 1 1 [.int .u8 (q / 2 ^ (8 * j) % 256)] rfl rfl (news1 (cell_new0 (by simp))) (one1 _) (by omega) (by unfold maxLen; omega) (by omega) (by simp; omega) _ rfl ?_; intro g1 cap1 w1 hown1 hgrow1 hat1 hlt1)
              have hs1 := grown1 hown1 (by simp) Hhit.out
              have hbel1 : Below base w w1 := by
                refine Below.grown ?_ hgrow1 (by simp; omega) (fun k hk => by simp [Value.ownBlock] at hk; subst hk; exact hgb)
                repeat (first | exact hbel2 | apply Below.drew | refine Below.alloc ?_ (by simp; omega) _ | refine Below.setCell ?_ (by simpa using hgb) _)
              clear hgrow1 hat1 hlt1 hown1
              go_roundw
              case rel => first | exact ⟨j + 1, g1, cap1, by omega, by go_num, by rw [hs1.1], hs1.2, hbel1⟩ | ((repeat apply Exists.intro); exact ⟨⟨j + 1, g1, cap1, by omega, by go_num, by rw [hs1.1], hs1.2, hbel1⟩, rfl⟩)
              case measure => simp [intOf]; omega
            · have hne : byteAt q j = 0 := by
                have h : (q / 2 ^ (8 * j) % 256 != 0) = false := by assumption
                unfold byteAt; simpa using h
              have Hm := Row1_miss (ys := ys) hne
              go_roundw
              case rel => exact ⟨j + 1, g, c, by omega, by go_num, by rw [Hm], by rw [Hm]; exact hd2, hbel2⟩
              case measure => simp [intOf]; omega
          · obtain rfl : j = 4 := by omega
            have hz := Row2_zero ys q (n - (k : Int) * 16777215)
            rw [← hz] at hd2 hrl1
            go_wp2
            rw [← hz]
            clear hz hrl2
            go_loopw [0, 47] (fun d i wi => ∃ j g c : Nat, j ≤ 3 ∧ i = .int .i64 j ∧ d = .slice (some ⟨g, 0, none⟩) (Row2 ys q (n - (k : Int) * 16777215) j).length c ∧
                wi.ownsRow base 5 1 (.slice (some ⟨g, 0, none⟩) (Row2 ys q (n - (k : Int) * 16777215) j).length c) (Row2 ys q (n - (k : Int) * 16777215) j).length (U (Row2 ys q (n - (k : Int) * 16777215) j)) ∧ Below base w wi)
              (fun _ i _ => 3 - (intOf i).toNat)
            case atStart => exact ⟨0, g, c, by omega, rfl, rfl, hd2, hbel2⟩
            case round =>
              clear hd2 hbel2 hrl1 hsz2 hgb
              obtain ⟨j, g, c, hj, rfl, rfl, hd2, hbel2⟩ := hrel
              obtain ⟨hrl1, hrl2⟩ := Row2_len ys q (n - (k : Int) * 16777215) j hj
              have hsz2 := hbel2.size
              have hgb := (hd2.lt g rfl).1
              by_cases hj4 : j < 3
              · have hcell : wr.cell? ⟨g, ys.length, none⟩ = some (.int .u8 ((128 + maskTo q 4 + 16 * maskTo (n - (k : Int) * 16777215) j : Nat) : Int)) := by
                  rw [hd2.cellAt ys.length (by omega)]; simp [Row2_at]
                have hfr : wr.frozen? ⟨g, ys.length, none⟩ = false := hd2.frozenAt _
                go_wp2_with fail
                · have hne : ¬ byteAt (n - (k : Int) * 16777215) j = 0 := by
                    have h : ((n - (k : Int) * 16777215) / 2 ^ (8 * j) % 256 != 0) = true := by assumption
                    unfold byteAt; simpa using h
                  go_region
                  rw [bit_size q (n - (k : Int) * 16777215) j hj4]
                  have Hst : Hid ((wr.setCell ⟨g, ys.length, none⟩ (.int .u8 ((128 + maskTo q 4 + 16 * maskTo (n - (k : Int) * 16777215) j + 16 * 2 ^ j : Nat) : Int))).ownsRow base 5 1 (.slice (some ⟨g, 0, none⟩) (Row2 ys q (n - (k : Int) * 16777215) j).length c) (Row2 ys q (n - (k : Int) * 16777215) j).length (U ((Row2 ys q (n - (k : Int) * 16777215) j).set ys.length ((128 + maskTo q 4 + 16 * maskTo (n - (k : Int) * 16777215) j + 16 * 2 ^ j : Nat) : Int)))) := stored1 hd2 _ _
                  have Hhit : Hid ((Row2 ys q (n - (k : Int) * 16777215) j).set ys.length ((128 + maskTo q 4 + 16 * maskTo (n - (k : Int) * 16777215) j + 16 * 2 ^ j : Nat) : Int) ++ [(n - (k : Int) * 16777215) / 2 ^ (8 * j) % 256] = Row2 ys q (n - (k : Int) * 16777215) (j + 1)) := Row2_hit hne
                  generalize ((128 + maskTo q 4 + 16 * maskTo (n - (k : Int) * 16777215) j + 16 * 2 ^ j : Nat) : Int) = bb at *
                  go_wp2_with (at_builtin; refine wpList_append_lies _ rfl (.tmp 65) (.tmp 67) 22 rfl base 5 i0 (.int .u8 0) 1 1 Try.underlying22 hi hz0 hz1 hz2 rfl (by decide) (.slice (some ⟨g, 0, none⟩) (Row2 ys q (n - (k : Int) * 16777215) j).length c) (Row2 ys q (n - (k : Int) * 16777215) j).length (U ((Row2 ys q (n - (k : Int) * 16777215) j).set ys.length bb)) rfl (by exact Hst.out.alloc _) ⟨wr.heap.size, 0, none⟩ 1 1 [.int .u8 ((n - (k : Int) * 16777215) / 2 ^ (8 * j) % 256)] rfl rfl (news1 (cell_new0 (by simp))) (one1 _) (by omega) (by unfold maxLen; omega) (by omega) (by simp; omega) _ rfl ?_; intro g1 cap1 w1 hown1 hgrow1 hat1 hlt1)
                  have hs1 := grown1 hown1 (by simp) Hhit.out
                  have hbel1 : Below base w w1 := by
                    refine Below.grown ?_ hgrow1 (by simp; omega) (fun k hk => by simp [Value.ownBlock] at hk; subst hk; exact hgb)
                    repeat (first | exact hbel2 | apply Below.drew | refine Below.alloc ?_ (by simp; omega) _ | refine Below.setCell ?_ (by simpa using hgb) _)
                  clear hgrow1 hat1 hlt1 hown1
                  go_roundw
                  case rel => first | exact ⟨j + 1, g1, cap1, by omega, by go_num, by rw [hs1.1], hs1.2, hbel1⟩ | ((repeat apply Exists.intro); exact ⟨⟨j + 1, g1, cap1, by omega, by go_num, by rw [hs1.1], hs1.2, hbel1⟩, rfl⟩)
                  case measure => simp [intOf]; omega
                · have hne : byteAt (n - (k : Int) * 16777215) j = 0 := by
                    have h : ((n - (k : Int) * 16777215) / 2 ^ (8 * j) % 256 != 0) = false := by assumption
                    unfold byteAt; simpa using h
                  have Hm := Row2_miss (ys := ys) (q := q) hne
                  go_roundw
                  case rel => exact ⟨j + 1, g, c, by omega, by go_num, by rw [Hm], by rw [Hm]; exact hd2, hbel2⟩
                  case measure => simp [intOf]; omega
              · obtain rfl : j = 3 := by omega
                have h3 := Row2_three ys q (n - (k : Int) * 16777215)
                rw [h3] at hd2
                have Hf : Hid (Row2 ys q (n - (k : Int) * 16777215) 3 = xs ++ encTo offset n (k + 1)) := by show _ = _; rw [h3, HE.out]
                rw [← HE.out] at hd2
                clear h3 hrl1 hrl2
                go_wp2
                rw [Hf.out]
                go_roundw
                case rel => exact ⟨k + 1, _, by omega, by go_num, rfl, fun h => absurd (Hwi1.out.1 h) (by omega), hd2, hbel2⟩
                case measure => simp [intOf]; omega
      · have hsA : sizeAt n k = 16777215 := by simp [sizeAt, hbig]
        have HE : Hid (xs ++ encTo offset n (k + 1) = ys ++ one q (16777215 : Int)) := by have := Henc.out; rw [hsA] at this; exact this
        clear hsA Henc
        go_wp2_with (at_builtin; refine wpList_append_lies _ rfl (.tmp 21) (.tmp 22) 22 rfl base 5 i0 (.int .u8 0) 1 1 Try.underlying22 hi hz0 hz1 hz2 rfl (by decide) _ _ _ rfl (hd.alloc _) ⟨wr.heap.size, 0, none⟩ 1 1 [.int .u8 128] rfl rfl (cell_one_new _ _ _) (one1 _) (by omega) (by unfold maxLen; omega) (by omega) (by simp; omega) _ rfl ?_; intro g cap w1 hown1 hgrow1 hat1 hlt1)
        have hbel1 : Below base w w1 := (hbel.alloc (by omega) _).grown hgrow1 (by simp; omega) (fun k hk => (hd.lt k hk).1)
        have hs1 := grown1 (zs' := Row1 ys q 0) hown1 rfl (by simp [Row1, bytesTo, maskTo])
        clear hgrow1 hat1 hlt1 hd hown1
        go_loopw [0, 24] (fun d i wi => ∃ j g c : Nat, j ≤ 4 ∧ i = .int .i64 j ∧ d = .slice (some ⟨g, 0, none⟩) (Row1 ys q j).length c ∧
            wi.ownsRow base 5 1 (.slice (some ⟨g, 0, none⟩) (Row1 ys q j).length c) (Row1 ys q j).length (U (Row1 ys q j)) ∧ Below base w wi)
          (fun _ i _ => 4 - (intOf i).toNat)
        case atStart => exact ⟨0, g, cap, by omega, rfl, by rw [hs1.1], hs1.2, hbel1⟩
        case round =>
          clear hs1 hbel1
          obtain ⟨j, g, c, hj, rfl, rfl, hd2, hbel2⟩ := hrel
          obtain ⟨hrl1, hrl2⟩ := Row1_len ys q j hj
          have hsz2 := hbel2.size
          have hgb := (hd2.lt g rfl).1
          by_cases hj4 : j < 4
          · have hcell : wr.cell? ⟨g, ys.length, none⟩ = some (.int .u8 ((128 + maskTo q j : Nat) : Int)) := by
              rw [hd2.cellAt ys.length (by omega)]; simp [Row1_at]
            have hfr : wr.frozen? ⟨g, ys.length, none⟩ = false := hd2.frozenAt _
            go_wp2_with fail
            · have hne : ¬ byteAt q j = 0 := by
                have h : (q / 2 ^ (8 * j) % 256 != 0) = true := by assumption
                unfold byteAt; simpa using h
              go_region
              rw [bit_off q j hj4]
              have Hst : Hid ((wr.setCell ⟨g, ys.length, none⟩ (.int .u8 ((128 + maskTo q j + 2 ^ j : Nat) : Int))).ownsRow base 5 1 (.slice (some ⟨g, 0, none⟩) (Row1 ys q j).length c) (Row1 ys q j).length (U ((Row1 ys q j).set ys.length ((128 + maskTo q j + 2 ^ j : Nat) : Int)))) := stored1 hd2 _ _
              have Hhit : Hid ((Row1 ys q j).set ys.length ((128 + maskTo q j + 2 ^ j : Nat) : Int) ++ [q / 2 ^ (8 * j) % 256] = Row1 ys q (j + 1)) := Row1_hit hne
              generalize ((128 + maskTo q j + 2 ^ j : Nat) : Int) = bb at *
              go_wp2_with (at_builtin; refine wpList_append_lies _ rfl (.tmp 42) (.tmp 44) 22 rfl base 5 i0 (.int .u8 0) 1 1 Try.underlying22 hi hz0 hz1 hz2 rfl (by decide) (.slice (some ⟨g, 0, none⟩) (Row1 ys q j).length c) (Row1 ys q j).length (U ((Row1 ys q j).set ys.length bb)) rfl (by exact Hst.out.alloc _) ⟨wr.heap.size, 0, none⟩ 1 1 [.int .u8 (q / 2 ^ (8 * j) % 256)] rfl rfl (news1 (cell_new0 (by simp))) (one1 _) (by omega) (by unfold maxLen; omega) (by omega) (by simp; omega) _ rfl ?_; intro g1 cap1 w1 hown1 hgrow1 hat1 hlt1)
              have hs1 := grown1 hown1 (by simp) Hhit.out
              have hbel1 : Below base w w1 := by
                refine Below.grown ?_ hgrow1 (by simp; omega) (fun k hk => by simp [Value.ownBlock] at hk; subst hk; exact hgb)
                repeat (first | exact hbel2 | apply Below.drew | refine Below.alloc ?_ (by simp; omega) _ | refine Below.setCell ?_ (by simpa using hgb) _)
              clear hgrow1 hat1 hlt1 hown1
              go_roundw
              case rel => first | exact ⟨j + 1, g1, cap1, by omega, by go_num, by rw [hs1.1], hs1.2, hbel1⟩ | ((repeat apply Exists.intro); exact ⟨⟨j + 1, g1, cap1, by omega, by go_num, by rw [hs1.1], hs1.2, hbel1⟩, rfl⟩)
              case measure => simp [intOf]; omega
            · have hne : byteAt q j = 0 := by
                have h : (q / 2 ^ (8 * j) % 256 != 0) = false := by assumption
                unfold byteAt; simpa using h
              have Hm := Row1_miss (ys := ys) hne
              go_roundw
              case rel => exact ⟨j + 1, g, c, by omega, by go_num, by rw [Hm], by rw [Hm]; exact hd2, hbel2⟩
              case measure => simp [intOf]; omega
          · obtain rfl : j = 4 := by omega
            have hz := Row2_zero ys q (16777215 : Int)
            rw [← hz] at hd2 hrl1
            go_wp2
            rw [← hz]
            clear hz hrl2
            go_loopw [0, 47] (fun d i wi => ∃ j g c : Nat, j ≤ 3 ∧ i = .int .i64 j ∧ d = .slice (some ⟨g, 0, none⟩) (Row2 ys q (16777215 : Int) j).length c ∧
                wi.ownsRow base 5 1 (.slice (some ⟨g, 0, none⟩) (Row2 ys q (16777215 : Int) j).length c) (Row2 ys q (16777215 : Int) j).length (U (Row2 ys q (16777215 : Int) j)) ∧ Below base w wi)
              (fun _ i _ => 3 - (intOf i).toNat)
            case atStart => exact ⟨0, g, c, by omega, rfl, rfl, hd2, hbel2⟩
            case round =>
              clear hd2 hbel2 hrl1 hsz2 hgb
              obtain ⟨j, g, c, hj, rfl, rfl, hd2, hbel2⟩ := hrel
              obtain ⟨hrl1, hrl2⟩ := Row2_len ys q (16777215 : Int) j hj
              have hsz2 := hbel2.size
              have hgb := (hd2.lt g rfl).1
              by_cases hj4 : j < 3
              · have hcell : wr.cell? ⟨g, ys.length, none⟩ = some (.int .u8 ((128 + maskTo q 4 + 16 * maskTo (16777215 : Int) j : Nat) : Int)) := by
                  rw [hd2.cellAt ys.length (by omega)]; simp [Row2_at]
                have hfr : wr.frozen? ⟨g, ys.length, none⟩ = false := hd2.frozenAt _
                go_wp2_with fail
                · have hne : ¬ byteAt (16777215 : Int) j = 0 := by
                    have h : ((16777215 : Int) / 2 ^ (8 * j) % 256 != 0) = true := by assumption
                    unfold byteAt; simpa using h
                  go_region
                  rw [bit_size q (16777215 : Int) j hj4]
                  have Hst : Hid ((wr.setCell ⟨g, ys.length, none⟩ (.int .u8 ((128 + maskTo q 4 + 16 * maskTo (16777215 : Int) j + 16 * 2 ^ j : Nat) : Int))).ownsRow base 5 1 (.slice (some ⟨g, 0, none⟩) (Row2 ys q (16777215 : Int) j).length c) (Row2 ys q (16777215 : Int) j).length (U ((Row2 ys q (16777215 : Int) j).set ys.length ((128 + maskTo q 4 + 16 * maskTo (16777215 : Int) j + 16 * 2 ^ j : Nat) : Int)))) := stored1 hd2 _ _
                  have Hhit : Hid ((Row2 ys q (16777215 : Int) j).set ys.length ((128 + maskTo q 4 + 16 * maskTo (16777215 : Int) j + 16 * 2 ^ j : Nat) : Int) ++ [(16777215 : Int) / 2 ^ (8 * j) % 256] = Row2 ys q (16777215 : Int) (j + 1)) := Row2_hit hne
                  generalize ((128 + maskTo q 4 + 16 * maskTo (16777215 : Int) j + 16 * 2 ^ j : Nat) : Int) = bb at *
                  go_wp2_with (at_builtin; refine wpList_append_lies _ rfl (.tmp 65) (.tmp 67) 22 rfl base 5 i0 (.int .u8 0) 1 1 Try.underlying22 hi hz0 hz1 hz2 rfl (by decide) (.slice (some ⟨g, 0, none⟩) (Row2 ys q (16777215 : Int) j).length c) (Row2 ys q (16777215 : Int) j).length (U ((Row2 ys q (16777215 : Int) j).set ys.length bb)) rfl (by exact Hst.out.alloc _) ⟨wr.heap.size, 0, none⟩ 1 1 [.int .u8 ((16777215 : Int) / 2 ^ (8 * j) % 256)] rfl rfl (news1 (cell_new0 (by simp))) (one1 _) (by omega) (by unfold maxLen; omega) (by omega) (by simp; omega) _ rfl ?_; intro g1 cap1 w1 hown1 hgrow1 hat1 hlt1)
                  have hs1 := grown1 hown1 (by simp) Hhit.out
                  have hbel1 : Below base w w1 := by
                    refine Below.grown ?_ hgrow1 (by simp; omega) (fun k hk => by simp [Value.ownBlock] at hk; subst hk; exact hgb)
                    repeat (first | exact hbel2 | apply Below.drew | refine Below.alloc ?_ (by simp; omega) _ | refine Below.setCell ?_ (by simpa using hgb) _)
                  clear hgrow1 hat1 hlt1 hown1
                  go_roundw
                  case rel => first | exact ⟨j + 1, g1, cap1, by omega, by go_num, by rw [hs1.1], hs1.2, hbel1⟩ | ((repeat apply Exists.intro); exact ⟨⟨j + 1, g1, cap1, by omega, by go_num, by rw [hs1.1], hs1.2, hbel1⟩, rfl⟩)
                  case measure => simp [intOf]; omega
                · have hne : byteAt (16777215 : Int) j = 0 := by
                    have h : ((16777215 : Int) / 2 ^ (8 * j) % 256 != 0) = false := by assumption
                    unfold byteAt; simpa using h
                  have Hm := Row2_miss (ys := ys) (q := q) hne
                  go_roundw
                  case rel => exact ⟨j + 1, g, c, by omega, by go_num, by rw [Hm], by rw [Hm]; exact hd2, hbel2⟩
                  case measure => simp [intOf]; omega
              · obtain rfl : j = 3 := by omega
                have h3 := Row2_three ys q (16777215 : Int)
                rw [h3] at hd2
                have Hf : Hid (Row2 ys q (16777215 : Int) 3 = xs ++ encTo offset n (k + 1)) := by show _ = _; rw [h3, HE.out]
                rw [← HE.out] at hd2
                clear h3 hrl1 hrl2
                go_wp2
                rw [Hf.out]
                go_roundw
                case rel => exact ⟨k + 1, _, by omega, by go_num, rfl, fun _ => Hq.out, hd2, hbel2⟩
                case measure => simp [intOf]; omega
    · obtain rfl : k = want n := by omega
      clear hwi1
      obtain ⟨a0, cap0, rfl⟩ := owns_form hd
      go_wp2
      go_ret
      exact ⟨_, rfl, hd, hbel⟩

theorem zz_any (base : Nat) (v : Value) (xs : List Int) (offset n : Int) (w : World) (hown : w.ownsRow base 5 1 v xs.length (U xs)) (hb : base ≤ w.heap.size)
    (hx : xs.length ≤ 1048576) (hn : n ≤ 68719476736) (hn0 : -9223372036854775808 ≤ n) (ho0 : -9223372036854775808 ≤ offset) (ho1 : offset ≤ 9223372036854775807) :
    Calls Try.prog 5 #[v, .int .i64 offset, .int .i64 n] w fun e w' => ∃ v', e = .returned v' ∧ w'.ownsRow base 5 1 v' (xs ++ encTo offset n (want n)).length (U (xs ++ encTo offset n (want n))) ∧ Below base w w' := by
  have H := copies_any base v xs offset n w hown hb hx hn hn0 ho0 ho1
  go_enter Try.func5, Try.ntmps5
  go_wp2_with (go_at_call 6; refine H.mono ?_; rintro e w' ⟨v', rfl, h1, h2⟩)
  go_ret
  exact ⟨_, rfl, h1, h2⟩
end Go.Proofs.Qxb6618463a
