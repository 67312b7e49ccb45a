/-
  'skipSpace': the plain scan, and the walks of 'isSpace' (18), '(*parser).skipSpace' (17), 'ZZSkipSpace' (13), 'zzIsWhite' (14).
-/
import Derived.Test.Qxb6619267aBase
namespace Go.Proofs.Qxb6619267a
open Go.RowKit

namespace Pl
def white (x : Int) : Bool := x == 0 || x == 9 || x == 10 || x == 12 || x == 13 || x == 32
/-- One step of the scan: the mode is 'in a comment'. -/
def st (m : Bool) (x : Int) : Option Bool := if m then some (!(x == 10 || x == 13)) else if white x then some false else if x == 37 then some true else none
def scan (f : Nat → Int) (n : Nat) : Nat → Bool → Nat → Nat
  | 0, _, p => p
  | k + 1, m, p => if p < n then (match st m (f p) with | some m' => scan f n k m' (p + 1) | none => p) else p
def skip (f : Nat → Int) (n p : Nat) : Nat := scan f n (n - p) false p

theorem scan_bd (f : Nat → Int) (n : Nat) : ∀ k m p, p + k = n → p ≤ scan f n k m p ∧ scan f n k m p ≤ n ∧ (scan f n k m p < n → st false (f (scan f n k m p)) = none)
  | 0, m, p, h => by simp only [scan]; exact ⟨by omega, by omega, fun h2 => by omega⟩
  | k + 1, m, p, h => by
    simp only [scan]
    rw [if_pos (by omega)]
    cases hs : st m (f p) with
    | none =>
      simp only
      refine ⟨Nat.le_refl _, by omega, fun _ => ?_⟩
      cases m with
      | true => simp [st] at hs
      | false => exact hs
    | some m' =>
      have ih := scan_bd f n k m' (p + 1) (by omega)
      simp only
      exact ⟨by omega, ih.2.1, ih.2.2⟩

theorem scan_cut (f : Nat → Int) (n c : Nat) (hc : c ≤ n) : ∀ k m p, p + k = n → p ≤ c → scan f c (c - p) m p = min c (scan f n k m p)
  | 0, m, p, h, hp => by
    obtain rfl : p = c := by omega
    simp [scan]
  | k + 1, m, p, h, hp => by
    by_cases e : p = c
    · subst e
      have := (scan_bd f n (k + 1) m p h).1
      rw [Nat.sub_self]
      simp only [scan] at this ⊢
      omega
    · obtain ⟨j, hj⟩ : ∃ j, c - p = j + 1 := ⟨c - p - 1, by omega⟩
      rw [hj]
      simp only [scan]
      rw [if_pos (by omega), if_pos (by omega)]
      cases hs : st m (f p) with
      | none => simp only; omega
      | some m' =>
        have ih := scan_cut f n c hc k m' (p + 1) (by omega) (by omega)
        simp only
        rw [← ih, show j = c - (p + 1) by omega]

theorem scan_step {f : Nat → Int} {n p : Nat} (h : p < n) (m m' : Bool) (hs : st m (f p) = some m') : scan f n (n - p) m p = scan f n (n - (p + 1)) m' (p + 1) := by
  obtain ⟨j, hj⟩ : ∃ j, n - p = j + 1 := ⟨n - p - 1, by omega⟩
  rw [hj]
  simp only [scan, if_pos h, hs]
  rw [show j = n - (p + 1) by omega]
theorem scan_stop {f : Nat → Int} {n p : Nat} (h : p < n) (m : Bool) (hs : st m (f p) = none) : scan f n (n - p) m p = p := by
  obtain ⟨j, hj⟩ : ∃ j, n - p = j + 1 := ⟨n - p - 1, by omega⟩
  rw [hj]
  simp only [scan, if_pos h, hs]
theorem scan_end (f : Nat → Int) (n : Nat) (m : Bool) : scan f n (n - n) m n = n := by rw [Nat.sub_self]; rfl

theorem st_white {x : Int} (h : white x = true) : st false x = some false := by simp [st, h]
theorem st_pct {x : Int} (h : x = 37) : st false x = some true := by subst h; rfl
theorem st_none {x : Int} (h : white x = false) (h2 : x ≠ 37) : st false x = none := by simp [st, h, h2]
theorem st_none_iff {x : Int} (h : st false x = none) : white x = false ∧ x ≠ 37 := by
  unfold st at h
  rw [if_neg (by simp)] at h
  cases hw : white x with
  | true => simp [hw] at h
  | false =>
    refine ⟨rfl, fun e => ?_⟩
    subst e
    simp [hw] at h
theorem st_on {x : Int} (h1 : x ≠ 10) (h2 : x ≠ 13) : st true x = some true := by simp [st, h1, h2]
theorem st_eol {x : Int} (h : x = 10 ∨ x = 13) : st true x = some false ∧ st false x = some false := by
  rcases h with rfl | rfl <;> exact ⟨rfl, rfl⟩
theorem white_cases {x : Int} (h : white x = true) : x = 0 ∨ x = 9 ∨ x = 10 ∨ x = 12 ∨ x = 13 ∨ x = 32 := by
  simp [white] at h; omega
theorem not_white {x : Int} (h : white x = false) : x ≠ 0 ∧ x ≠ 9 ∧ x ≠ 10 ∧ x ≠ 12 ∧ x ≠ 13 ∧ x ≠ 32 := by
  simp [white] at h; omega
end Pl
open Pl

set_option maxHeartbeats 1000000 in
theorem space_any (x : Int) (w : World) : Calls Try.prog 18 #[.int .u8 x] w fun e w' => e = .returned (.bool (white x)) ∧ w' = w := by
  cases hw : white x with
  | true =>
    rcases white_cases hw with rfl | rfl | rfl | rfl | rfl | rfl
    all_goals
      clear hw
      go_enter Try.func18, Try.ntmps18
      go_wp2
      go_ret
      exact ⟨rfl, rfl⟩
  | false =>
    obtain ⟨h1, h2, h3, h4, h5, h6⟩ := not_white hw
    clear hw
    have e1 : (x == 0) = false := by simpa using h1
    have e2 : (x == 9) = false := by simpa using h2
    have e3 : (x == 10) = false := by simpa using h3
    have e4 : (x == 12) = false := by simpa using h4
    have e5 : (x == 13) = false := by simpa using h5
    have e6 : (x == 32) = false := by simpa using h6
    go_enter Try.func18, Try.ntmps18
    go_wp2
    go_ret
    exact ⟨rfl, rfl⟩

set_option maxHeartbeats 1000000 in
theorem white_any (x : Int) (w : World) : Calls Try.prog 14 #[.int .u8 x] w fun e w' => e = .returned (.bool (white x)) ∧ w' = w := by
  cases hw : white x with
  | true =>
    rcases white_cases hw with rfl | rfl | rfl | rfl | rfl | rfl
    all_goals
      clear hw
      go_enter Try.func14, Try.ntmps14
      go_wp2
      go_ret
      exact ⟨rfl, rfl⟩
  | false =>
    obtain ⟨h1, h2, h3, h4, h5, h6⟩ := not_white hw
    clear hw
    have e1 : (x == 0) = false := by simpa using h1
    have e2 : (x == 9) = false := by simpa using h2
    have e3 : (x == 10) = false := by simpa using h3
    have e4 : (x == 12) = false := by simpa using h4
    have e5 : (x == 13) = false := by simpa using h5
    have e6 : (x == 32) = false := by simpa using h6
    go_enter Try.func14, Try.ntmps14
    go_wp2
    go_ret
    exact ⟨rfl, rfl⟩
end Go.Proofs.Qxb6619267a
