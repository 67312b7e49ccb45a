/-
  'isNumber': the plain function, and the walks of 'zzIsDigit' (16), 'zzIsSign' (10), 'zzAllDigits' (11), 'isNumber' (15), 'ZZIsNumber' (8).
-/
import Derived.Test.Qxb6619267aBase
namespace Go.Proofs.Qxb6619267a
open Go.RowKit

namespace Pl
def dig (x : Int) : Bool := decide (48 ≤ x) && decide (x ≤ 57)
def pt (x : Int) : Bool := x == 46
def sgn (x : Int) : Bool := x == 43 || x == 45
def dp (x : Int) : Bool := dig x || pt x
def okAll : List Int → Bool
  | [] => true
  | x :: r => (dp x || sgn x) && r.all dp
def isNum (l : List Int) : Bool := okAll l && (decide (0 < l.countP dig) && decide (l.countP pt ≤ 1))

theorem okAll_no (l : List Int) (i : Nat) (hi : i < l.length) (h1 : dp (l.getD i 0) = false) (h2 : 0 < i ∨ sgn (l.getD i 0) = false) : okAll l = false := by
  cases l with
  | nil => simp at hi
  | cons x r =>
    cases i with
    | zero =>
      have h3 : sgn x = false := by simpa using h2
      have h4 : dp x = false := by simpa using h1
      simp [okAll, h3, h4]
    | succ i =>
      simp only [List.length_cons] at hi
      have hm : r.getD i 0 ∈ r := by rw [List.getD_eq_getElem?_getD, List.getElem?_eq_getElem (by omega)]; exact List.getElem_mem _
      have h4 : dp (r.getD i 0) = false := by simpa using h1
      have : r.all dp = false := by
        rw [List.all_eq_false]
        exact ⟨_, hm, by rw [h4]; exact Bool.false_ne_true⟩
      simp [okAll, this]

theorem okAll_yes (l : List Int) (h : ∀ i, i < l.length → dp (l.getD i 0) = true ∨ (i = 0 ∧ sgn (l.getD i 0) = true)) : okAll l = true := by
  cases l with
  | nil => rfl
  | cons x r =>
    have h0 : dp x = true ∨ sgn x = true := by
      have := h 0 (by simp)
      simpa using this
    have hr : r.all dp = true := by
      rw [List.all_eq_true]
      intro y hy
      obtain ⟨i, hi, e⟩ := List.getElem_of_mem hy
      have := h (i + 1) (by simp; omega)
      have e2 : (x :: r).getD (i + 1) 0 = y := by simp [List.getD, hi, e]
      rw [e2] at this
      rcases this with h | ⟨h, _⟩
      · exact h
      · omega
    rcases h0 with h0 | h0 <;> simp [okAll, h0, hr]

theorem take_count (p : Int → Bool) (l : List Int) (i : Nat) (h : i < l.length) : (l.take (i + 1)).countP p = (l.take i).countP p + (if p (l.getD i 0) then 1 else 0) := by
  rw [List.take_succ_eq_append_getElem h, List.countP_append, List.getD_eq_getElem?_getD, List.getElem?_eq_getElem h]
  simp [List.countP_cons]
end Pl
open Pl

/-- The bytes l lie where a slice of their length leads. -/
def Lst (w : World) (a : Option Addr) (l : List Int) : Prop := Ints w a l.length (fun i => l.getD i 0)

set_option maxHeartbeats 400000 in
theorem digit_any (x : Int) (w : World) : Calls Try.prog 16 #[.int .u8 x] w fun e w' => e = .returned (.bool (dig x)) ∧ w' = w := by
  unfold dig
  by_cases h1 : 48 ≤ x
  · by_cases h2 : x ≤ 57
    · go_enter Try.func16, Try.ntmps16
      go_wp2
      go_ret
      exact ⟨by simp [h1, h2], rfl⟩
    · have h2' : decide (x ≤ 57) = false := by simpa using h2
      go_enter Try.func16, Try.ntmps16
      go_wp2
      go_ret
      exact ⟨by simp, rfl⟩
  · have h1' : decide (48 ≤ x) = false := by simpa using h1
    go_enter Try.func16, Try.ntmps16
    go_wp2
    go_ret
    exact ⟨by simp, rfl⟩

set_option maxHeartbeats 400000 in
theorem sign_any (x : Int) (w : World) : Calls Try.prog 10 #[.int .u8 x] w fun e w' => e = .returned (.bool (sgn x)) ∧ w' = w := by
  unfold sgn
  by_cases h1 : x = 43
  · subst h1
    go_enter Try.func10, Try.ntmps10
    go_wp2
    go_ret
    exact ⟨rfl, rfl⟩
  · have h1' : (x == 43) = false := by simpa using h1
    go_enter Try.func10, Try.ntmps10
    go_wp2
    go_ret
    exact ⟨by simp [h1'], rfl⟩

set_option maxHeartbeats 1000000 in
theorem digits_any (a : Option Addr) (l : List Int) (c : Nat) (w : World) (hI : Lst w a l) (hn : l.length ≤ 65537) : Calls Try.prog 11 #[.slice a l.length c] w fun e w' => e = .returned (.bool (l.all dig)) ∧ w' = w := by
  have HI := hide_of hI
  clear hI
  go_enter Try.func11, Try.ntmps11
  go_wp2
  go_loop [3] (fun i => ∃ k : Nat, i = .int .i64 k ∧ k ≤ l.length ∧ ∀ j, j < k → dig (l.getD j 0) = true) (fun i => l.length - (intOf i).toNat)
  case atStart => exact ⟨0, rfl, Nat.zero_le _, fun j hj => by omega⟩
  case round =>
    obtain ⟨k, rfl, hk, hall⟩ := hrel
    have HA := hide_of hall
    clear hall
    by_cases hlt : k < l.length
    · obtain ⟨b, off, rfl, hc⟩ := HI.out.at k hlt
      have hl1 : (k : Int) < (l.length : Int) := by omega
      cases hd : dig (l.getD k 0) with
      | true =>
        have HA2 : Hid (∀ j, j < k + 1 → dig (l.getD j 0) = true) := fun j hj => by
          by_cases e : j = k
          · rw [e]; exact hd
          · exact HA.out j (by omega)
        generalize l.getD k 0 = x at hc hd
        go_wp2_with (go_at_call 16; refine (digit_any _ _).mono ?_; rintro e w2 ⟨rfl, hw⟩; have hw2 := hw.symm; clear hw; subst hw2)
        go_round
        case rel => exact ⟨k + 1, by go_num, by omega, HA2.out⟩
        case measure => simp [intOf]; omega
      | false =>
        have hno : l.all dig = false := by
          rw [List.all_eq_false]
          refine ⟨l.getD k 0, ?_, by rw [hd]; exact Bool.false_ne_true⟩
          rw [List.getD_eq_getElem?_getD, List.getElem?_eq_getElem hlt]; exact List.getElem_mem _
        have HNO := hide_of hno
        clear hno
        generalize l.getD k 0 = x at hc hd
        go_wp2_with (go_at_call 16; refine (digit_any _ _).mono ?_; rintro e w2 ⟨rfl, hw⟩; have hw2 := hw.symm; clear hw; subst hw2)
        go_ret
        exact ⟨by rw [HNO.out]; rfl, rfl⟩
    · obtain rfl : k = l.length := by omega
      have hyes : l.all dig = true := by
        rw [List.all_eq_true]
        intro y hy
        obtain ⟨i, hi, e⟩ := List.getElem_of_mem hy
        have := HA.out i hi
        simpa [List.getD, hi, e] using this
      have HY := hide_of hyes
      clear hyes
      go_wp2
      go_ret
      exact ⟨by rw [HY.out]; rfl, rfl⟩

set_option maxHeartbeats 2000000 in
theorem num15 (a : Option Addr) (l : List Int) (c : Nat) (w : World) (hI : Lst w a l) (hn : l.length ≤ 65537) : Calls Try.prog 15 #[.slice a l.length c] w fun e w' => e = .returned (.bool (isNum l)) ∧ w' = w := by
  have HI := hide_of hI
  clear hI
  go_enter Try.func15, Try.ntmps15
  go_wp2
  go_loop [3, 4, 9] (fun t3 t4 t9 => ∃ k D P : Nat, t9 = .int .i64 k ∧ t3 = .int .i64 D ∧ t4 = .int .i64 P ∧ k ≤ l.length ∧ D ≤ k ∧ P ≤ k ∧ D = (l.take k).countP dig ∧ P = (l.take k).countP pt ∧ ∀ i, i < k → dp (l.getD i 0) = true ∨ (i = 0 ∧ sgn (l.getD i 0) = true)) (fun _ _ i => l.length - (intOf i).toNat)
  case atStart => exact ⟨0, 0, 0, rfl, rfl, rfl, Nat.zero_le _, Nat.le_refl _, Nat.le_refl _, by simp, by simp, fun i hi => by omega⟩
  case round =>
    obtain ⟨k, D, P, rfl, rfl, rfl, hk, hDk, hPk, hD, hP, hall⟩ := hrel
    have HA := hide_of hall
    have HD := hide_of hD
    have HP := hide_of hP
    clear hall hD hP
    by_cases hlt : k < l.length
    · obtain ⟨b, off, rfl, hc⟩ := HI.out.at k hlt
      have hl1 : (k : Int) < (l.length : Int) := by omega
      have HC1 := hide_of (take_count dig l k hlt)
      have HC2 := hide_of (take_count pt l k hlt)
      have HX : ∀ {q : Prop}, (dp (l.getD k 0) = true ∨ (k = 0 ∧ sgn (l.getD k 0) = true)) → Hid (∀ i, i < k + 1 → dp (l.getD i 0) = true ∨ (i = 0 ∧ sgn (l.getD i 0) = true)) := fun h i hi => by
        by_cases e : i = k
        · rw [e]; exact h
        · exact HA.out i (by omega)
      have HXX := hide_of (@HX True)
      clear HX
      have HNO := hide_of (okAll_no l k hlt)
      obtain ⟨x, hx⟩ : ∃ x, x = l.getD k 0 := ⟨_, rfl⟩
      have hc' : w.cell? ⟨b, off + k, none⟩ = some (.int .u8 x) := by rw [hx]; exact hc
      clear hc
      rw [← hx] at HC1 HC2 HXX HNO
      clear hx
      by_cases h1 : 48 ≤ x ∧ x ≤ 57
      · obtain ⟨h1, h2⟩ := h1
        have hd : dig x = true := by simp [dig, h1, h2]
        have hp : pt x = false := by simp [pt]; omega
        have HA2 := HXX.out (.inl (by simp [dp, hd]))
        have HD2 : Hid (D + 1 = (l.take (k + 1)).countP dig) := by show _ = _; rw [HC1.out, hd, HD.out]; rfl
        have HP2 : Hid (P = (l.take (k + 1)).countP pt) := by show _ = _; rw [HC2.out, hp, HP.out]; rfl
        clear hd hp HC1 HC2 HXX HNO
        go_wp2
        go_round
        case rel => exact ⟨k + 1, D + 1, P, by go_num, by go_num, rfl, by omega, by omega, by omega, HD2.out, HP2.out, HA2.out⟩
        case measure => simp [intOf]; omega
      · have hd : dig x = false := by simp [dig]; omega
        by_cases h46 : x = 46
        · have hp : pt x = true := by simp [pt, h46]
          have HA2 := HXX.out (.inl (by simp [dp, hp]))
          have HD2 : Hid (D = (l.take (k + 1)).countP dig) := by show _ = _; rw [HC1.out, hd, HD.out]; rfl
          have HP2 : Hid (P + 1 = (l.take (k + 1)).countP pt) := by show _ = _; rw [HC2.out, hp, HP.out]; rfl
          clear hd hp HC1 HC2 HXX HNO h1
          subst h46
          go_wp2
          go_round
          case rel => exact ⟨k + 1, D, P + 1, by go_num, rfl, by go_num, by omega, by omega, by omega, HD2.out, HP2.out, HA2.out⟩
          case measure => simp [intOf]; omega
        · have hp : pt x = false := by simp [pt, h46]
          have hdp : dp x = false := by simp [dp, hd, hp]
          have h46' : (x == 46) = false := by simpa using h46
          by_cases hok : k = 0 ∧ (x = 43 ∨ x = 45)
          · obtain ⟨rfl, hs⟩ := hok
            have HA2 := HXX.out (.inr ⟨rfl, by rcases hs with rfl | rfl <;> rfl⟩)
            have HD2 : Hid (D = (l.take (0 + 1)).countP dig) := by show _ = _; rw [HC1.out, hd, HD.out]; rfl
            have HP2 : Hid (P = (l.take (0 + 1)).countP pt) := by show _ = _; rw [HC2.out, hp, HP.out]; rfl
            clear hd hp hdp HC1 HC2 HXX HNO h1 h46 h46'
            rw [Nat.add_zero] at hc'
            rcases hs with rfl | rfl
            all_goals
              go_wp2
              go_round
              case rel => exact ⟨1, D, P, by go_num, rfl, rfl, by omega, by omega, by omega, HD2.out, HP2.out, HA2.out⟩
              case measure => simp [intOf]; omega
          · have hno : isNum l = false := by
              have : okAll l = false := HNO.out hdp (by
                by_cases h0 : 0 < k
                · exact .inl h0
                · refine .inr ?_
                  simp only [sgn, Bool.or_eq_false_iff, beq_eq_false_iff_ne]
                  constructor
                  · exact fun e => hok ⟨by omega, .inl e⟩
                  · exact fun e => hok ⟨by omega, .inr e⟩)
              simp [isNum, this]
            have HN := hide_of hno
            clear hno hd hp hdp HC1 HC2 HXX HNO h46
            by_cases h48 : 48 ≤ x
            · have h57 : decide (x ≤ 57) = false := decide_eq_false (by omega)
              by_cases h0 : 0 < k
              · clear h1 hok
                go_wp2
                go_ret
                exact ⟨by rw [HN.out]; rfl, rfl⟩
              · obtain rfl : k = 0 := by omega
                rw [Nat.add_zero] at hc'
                have e1 : (x != 43) = true := by simp; omega
                have e2 : (x != 45) = true := by simp; omega
                clear h1 hok
                go_wp2
                go_ret
                exact ⟨by rw [HN.out]; rfl, rfl⟩
            · have h48' : decide (48 ≤ x) = false := decide_eq_false (by omega)
              by_cases h0 : 0 < k
              · clear h1 hok
                go_wp2
                go_ret
                exact ⟨by rw [HN.out]; rfl, rfl⟩
              · obtain rfl : k = 0 := by omega
                rw [Nat.add_zero] at hc'
                have e1 : (x != 43) = true := by simp; exact fun e => hok ⟨rfl, .inl e⟩
                have e2 : (x != 45) = true := by simp; exact fun e => hok ⟨rfl, .inr e⟩
                clear h1 hok
                go_wp2
                go_ret
                exact ⟨by rw [HN.out]; rfl, rfl⟩
    · obtain rfl : k = l.length := by omega
      have hres : isNum l = (decide (0 < D) && decide (P ≤ 1)) := by
        rw [HD.out, HP.out, List.take_length]
        simp [isNum, okAll_yes l HA.out]
      have HRES := hide_of hres
      clear hres
      by_cases h0 : 0 < D
      · by_cases h2 : P ≤ 1
        · go_wp2
          go_ret
          exact ⟨by rw [HRES.out]; simp [h0, h2]; omega, rfl⟩
        · have h2' : decide ((P : Int) ≤ 1) = false := decide_eq_false (by omega)
          go_wp2
          go_ret
          exact ⟨by rw [HRES.out]; simp [h0, h2], rfl⟩
      · obtain rfl : D = 0 := by omega
        go_wp2
        go_ret
        exact ⟨by rw [HRES.out]; simp, rfl⟩

theorem num8 (a : Option Addr) (l : List Int) (c : Nat) (w : World) (hI : Lst w a l) (hn : l.length ≤ 65537) : Calls Try.prog 8 #[.slice a l.length c] w fun e w' => e = .returned (.bool (isNum l)) ∧ w' = w := by
  have HI := hide_of hI
  clear hI
  go_enter Try.func8, Try.ntmps8
  go_wp2_with (go_at_call 15; refine (num15 _ _ _ _ HI.out hn).mono ?_; rintro e w2 ⟨rfl, hw⟩; have hw2 := hw.symm; clear hw; subst hw2)
  go_ret
  exact ⟨rfl, rfl⟩
end Go.Proofs.Qxb6619267a
