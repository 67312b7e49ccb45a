/-
  'zzNumberGrammar' (7): the plain law and the walk; the walk of the law 'FnIsNumberMatchesGrammar' (3).
-/
import Derived.Test.Qxb6619267aPoint
namespace Go.Proofs.Qxb6619267a
open Go.RowKit

namespace Pl
def strip (l : List Int) : List Int := if headSgn l then l.drop 1 else l

theorem isNum_strip (l : List Int) : isNum l = ((strip l).all dp && (decide (0 < (strip l).countP dig) && decide ((strip l).countP pt ≤ 1))) := by
  cases l with
  | nil => rfl
  | cons x r =>
    cases hs : sgn x with
    | true =>
      have e : strip (x :: r) = r := by simp [strip, headSgn, hs]
      have hd : dig x = false := by have := sgn_dp hs; simp [dp] at this; exact this.1
      have hp : pt x = false := by have := sgn_dp hs; simp [dp] at this; exact this.2
      rw [e]
      simp [isNum, okAll, hs, hd, hp]
    | false =>
      have e : strip (x :: r) = x :: r := by simp [strip, headSgn, hs]
      rw [e]
      simp [isNum, okAll, hs]

theorem all_noPt (r : List Int) (h : ∀ y ∈ r, pt y = false) : r.all dp = r.all dig ∧ r.countP pt = 0 := by
  refine ⟨?_, List.countP_eq_zero.2 fun y hy hp => by rw [h y hy] at hp; cases hp⟩
  induction r with
  | nil => rfl
  | cons x r ih =>
    have h1 := h x (by simp)
    have h2 := ih fun y hy => h y (by simp [hy])
    simp [List.all_cons, dp, h1, h2]

theorem all_count (r : List Int) (h : r.all dig = true) : r.countP dig = r.length := List.countP_eq_length.2 (List.all_eq_true.1 h)

theorem gram_none (l : List Int) (h : ∀ y ∈ strip l, pt y = false) : isNum l = (decide (0 < (strip l).length) && (strip l).all dig) := by
  rw [isNum_strip]
  obtain ⟨h1, h2⟩ := all_noPt _ h
  rw [h1, h2]
  cases hd : (strip l).all dig with
  | true => rw [all_count _ hd]; simp
  | false => simp

theorem gram_at (l A B : List Int) (he : strip l = A ++ 46 :: B) (h : ∀ y ∈ A, pt y = false) : isNum l = (decide (1 < (strip l).length) && (A.all dig && B.all dig)) := by
  rw [isNum_strip, he]
  obtain ⟨h1, h2⟩ := all_noPt _ h
  have h46 : dp 46 = true := rfl
  have h46d : dig 46 = false := rfl
  have h46p : pt 46 = true := rfl
  rw [List.all_append, List.all_cons, h1, h46, List.countP_append, List.countP_append, List.countP_cons, List.countP_cons, h46d, h46p, h2]
  simp only [Bool.true_and, Bool.false_eq_true, if_false, if_true, Nat.add_zero, Nat.zero_add]
  cases hA : A.all dig with
  | false => simp
  | true =>
    cases hB : B.all dig with
    | true =>
      have hpB : ∀ y ∈ B, pt y = false := fun y hy => by
        have h3 := List.all_eq_true.1 hB y hy
        cases hp : pt y with
        | false => rfl
        | true =>
          simp only [pt, beq_iff_eq] at hp
          subst hp
          cases h3
      obtain ⟨h3, h4⟩ := all_noPt _ hpB
      rw [h3, hB, h4, all_count _ hA, all_count _ hB]
      simp
      omega
    | false =>
      by_cases hp : B.countP pt + 1 ≤ 1
      · have h0 : B.countP pt = 0 := by omega
        have hpB : ∀ y ∈ B, pt y = false := fun y hy => by
          have := List.countP_eq_zero.1 h0 y hy
          simpa using this
        obtain ⟨h3, _⟩ := all_noPt _ hpB
        rw [h3, hB]
        simp
      · rw [decide_eq_false hp]
        simp
end Pl
open Pl

theorem sliceS_hi (x : Addr) (n c k : Nat) (hk : k ≤ c) (w : World) :
    (Instr.slice 22 (.slice (some x) n c) none (some (.int .i64 (k : Int))) none).run Try.prog w = .ok (.slice (some x) k c) w := by
  have he : Try.prog.elem 22 = 5 := rfl
  rw [run_slice_h w 22 (some x) n c (by rw [he]; exact Try.underlying22) .i64 k (by omega) (by omega), he, size_one]
  simp [Result.andThen, sliced, Addr.add]

theorem getD_mem' {l : List Int} {k : Nat} (h : k < l.length) : l.getD k 0 ∈ l := by
  rw [List.getD_eq_getElem?_getD, List.getElem?_eq_getElem h]; exact List.getElem_mem _

theorem noPt_of {r : List Int} {k : Nat} (h : ∀ i, i < k → r.getD i 0 ≠ 46) : ∀ y ∈ r.take k, pt y = false := by
  intro y hy
  obtain ⟨i, hi, e⟩ := List.getElem_of_mem hy
  have hi2 : i < k ∧ i < r.length := by simp at hi; omega
  have h1 := h i hi2.1
  have e2 : r.getD i 0 = y := by rw [← e, List.getD_eq_getElem?_getD, List.getElem?_eq_getElem hi2.2]; simp
  rw [e2] at h1
  simpa [pt] using h1

theorem split_at {r : List Int} {k : Nat} (hk : k < r.length) (h : r.getD k 0 = 46) : r = r.take k ++ 46 :: r.drop (k + 1) := by
  have e : r[k] = 46 := by rw [← h, List.getD_eq_getElem?_getD, List.getElem?_eq_getElem hk]; rfl
  rw [← e, ← List.drop_eq_getElem_cons hk, List.take_append_drop]

theorem lst_take {w : World} {a : Option Addr} {r : List Int} (h : Lst w a r) (k : Nat) (hk : k ≤ r.length) : Lst w a (r.take k) := by
  intro h0
  have h1 : 0 < r.length := by simp at h0; omega
  obtain ⟨b, off, e, hc⟩ := h h1
  refine ⟨b, off, e, fun i hi => ?_⟩
  have hi2 : i < k := by simp at hi; omega
  rw [hc i (by omega)]
  simp [List.getD, List.getElem?_take_of_lt hi2]
theorem lst_drop {w : World} {a : Option Addr} {r : List Int} (h : Lst w a r) (k c : Nat) (hc : r.length ≤ c) (_hk : k ≤ r.length) : Lst w (if c = k then a else a.map (·.add k)) (r.drop k) := by
  intro h0
  have h1 : k < r.length := by simp at h0; omega
  obtain ⟨b, off, rfl, hx⟩ := h (by omega)
  rw [if_neg (by omega)]
  refine ⟨b, off + k, by simp [Addr.add], fun i hi => ?_⟩
  have hi2 : k + i < r.length := by simp at hi; omega
  rw [Nat.add_assoc, hx (k + i) hi2]
  simp [List.getD]

set_option maxRecDepth 100000 in
set_option maxHeartbeats 4000000 in
theorem gram7 (a : Option Addr) (l : List Int) (c : Nat) (w : World) (hI : Lst w a l) (hf : Form a l.length c) (hn : l.length ≤ 65536) : Calls Try.prog 7 #[.slice a l.length c] w fun e w' => e = .returned (.bool (isNum l)) ∧ w' = w := by
  have HI := hide_of hI
  have hlc : l.length ≤ c := by rcases hf with ⟨_, h1, h2⟩ | ⟨g, _, rfl⟩ <;> omega
  obtain ⟨r, hr⟩ : ∃ r, r = strip l := ⟨_, rfl⟩
  have HR := hide_of hr
  have hrl : r.length ≤ l.length := by rw [hr]; unfold strip; split <;> simp
  obtain ⟨hh, hhh⟩ : ∃ h, h = headSgn l := ⟨_, rfl⟩
  have HHH := hide_of hhh
  clear hI hr hf hhh
  go_enter Try.func7, Try.ntmps7
  go_upto_region 2 with fail
  go_cut [15] (fun s15 wx => s15 = .bool hh ∧ wx = w)
  case first =>
    by_cases h0 : 0 < l.length
    · obtain ⟨b, off, e1, hc⟩ := HI.out.at 0 h0
      subst e1
      rw [Nat.add_zero] at hc
      have hsg : headSgn l = sgn (l.getD 0 0) := by
        cases l with
        | nil => simp at h0
        | cons x r => rfl
      have hl0 : (0 : Int) < (l.length : Int) := by omega
      have c10 := sign_any (l.getD 0 0) w
      rw [← hsg, ← HHH.out] at c10
      clear hsg
      generalize l.getD 0 0 = y at hc c10
      go_wp2_with (go_at_call 10; refine c10.mono ?_; rintro e w7 ⟨rfl, hw⟩; have hw2 := hw.symm; clear hw; subst hw2)
      go_meet
      exact ⟨rfl, rfl⟩
    · have hsg : hh = false := by
        rw [HHH.out]
        cases l with
        | nil => rfl
        | cons y r => simp at h0
      subst hsg
      have hl0 : decide ((0 : Int) < (l.length : Int)) = false := decide_eq_false (by omega)
      go_wp2_with fail
      go_meet
      exact ⟨rfl, rfl⟩
  case rest =>
  obtain ⟨e, e2⟩ := hcut
  subst e
  subst e2
  rename World => w
  go_upto_if 15 with fail
  go_cut [3] (fun s3 wx => ∃ a' c', s3 = .slice a' r.length c' ∧ Lst w a' r ∧ r.length ≤ c' ∧ wx = w)
  case first =>
    cases hh with
    | true =>
      have hs : headSgn l = true := HHH.out.symm
      have h1 : 1 ≤ l.length := by
        cases l with
        | nil => cases hs
        | cons x r => simp
      have hr : r = l.drop 1 := by rw [HR.out]; simp [strip, hs]
      have hsl : ∀ w1 : World, (Instr.slice 22 (.slice a l.length c) (some (.int .i64 1)) none none).run Try.prog w1 = .ok (.slice (if c = 1 then a else a.map (·.add 1)) r.length (c - 1)) w1 := fun w1 => by
        have h2 := slice_lo (a := a) (n := l.length) (c := c) (k := 1) h1 w1
        have e : l.length - 1 = r.length := by rw [hr]; simp
        rw [e] at h2
        exact h2
      have hL := lst_drop HI.out 1 c hlc h1
      rw [← hr] at hL
      have hcc : r.length ≤ c - 1 := by rw [hr]; simp; omega
      generalize (if c = 1 then a else a.map (·.add 1)) = a' at hsl hL
      clear hr hs
      go_wp2_with fail
      go_meet
      exact ⟨a', c - 1, rfl, hL, hcc, rfl⟩
    | false =>
      have hs : headSgn l = false := HHH.out.symm
      have hr : r = l := by rw [HR.out]; simp [strip, hs]
      clear hs
      have HH := hide_of hr
      clear hr
      go_wp2_with fail
      go_meet
      exact ⟨a, c, by rw [HH.out], by rw [HH.out]; exact HI.out, by rw [HH.out]; exact hlc, rfl⟩
  case rest =>
  obtain ⟨a', c', e, hL, hrc, e2⟩ := hcut
  subst e
  subst e2
  rename World => w
  have HL := hide_of hL
  clear hL HI
  go_wp2_with fail
  go_loop [4, 5] (fun s4 s5 => ∃ j : Nat, s4 = .int .i64 (-1) ∧ s5 = .int .i64 j ∧ j ≤ r.length ∧ ∀ i, i < j → r.getD i 0 ≠ 46) (fun _ i => r.length - (intOf i).toNat)
  case atStart => exact ⟨0, rfl, rfl, Nat.zero_le _, fun i hi => by omega⟩
  case round =>
  obtain ⟨j, rfl, rfl, hj, hall⟩ := hrel
  have HA := hide_of hall
  clear hall
  by_cases hlt : j < r.length
  · obtain ⟨b, off, e1, hc⟩ := HL.out.at j hlt
    subst e1
    have hl1 : (j : Int) < (r.length : Int) := by omega
    by_cases h46 : r.getD j 0 = 46
    · obtain ⟨A, hA⟩ : ∃ A, A = r.take j := ⟨_, rfl⟩
      obtain ⟨B, hB⟩ : ∃ B, B = r.drop (j + 1) := ⟨_, rfl⟩
      have hres := gram_at l A B (by rw [← HR.out, hA, hB]; exact split_at hlt h46) (by rw [hA]; exact noPt_of HA.out)
      rw [← HR.out] at hres
      have hAl : A.length = j := by rw [hA]; simp; omega
      have hBl : B.length = r.length - (j + 1) := by rw [hB]; simp
      have hLA : Lst w (some ⟨b, off, none⟩) A := by rw [hA]; exact lst_take HL.out j (by omega)
      have hLB := lst_drop HL.out (j + 1) c' hrc (by omega)
      rw [← hB] at hLB
      have hs1 : ∀ w1 : World, (Instr.slice 22 (.slice (some ⟨b, off, none⟩) r.length c') none (some (.int .i64 (j : Int))) none).run Try.prog w1 = .ok (.slice (some ⟨b, off, none⟩) A.length c') w1 := fun w1 => by
        have h2 := sliceS_hi ⟨b, off, none⟩ r.length c' j (by omega) w1
        rw [hAl]; exact h2
      have hs2 : ∀ w1 : World, (Instr.slice 22 (.slice (some ⟨b, off, none⟩) r.length c') (some (.int .i64 ((j : Int) + 1))) none none).run Try.prog w1 = .ok (.slice (if c' = j + 1 then some ⟨b, off, none⟩ else (some ⟨b, off, none⟩ : Option Addr).map (·.add (j + 1))) B.length (c' - (j + 1))) w1 := fun w1 => by
        have h2 := slice_lo (a := some ⟨b, off, none⟩) (n := r.length) (c := c') (k := j + 1) (by omega) w1
        rw [hBl]; exact h2
      generalize (if c' = j + 1 then (some ⟨b, off, none⟩ : Option Addr) else (some ⟨b, off, none⟩ : Option Addr).map (·.add (j + 1))) = ab at hs2 hLB
      have cA := digits_any _ A c' w hLA (by omega)
      have cB := digits_any _ B (c' - (j + 1)) w hLB (by omega)
      generalize c' - (j + 1) = cb at hs2 cB
      generalize A.all dig = dA at cA hres
      generalize B.all dig = dB at cB hres
      have HRES := hide_of hres
      rw [h46] at hc
      clear hres hAl hBl hA hB h46 hLA hLB
      by_cases h1 : 1 < r.length
      · have h1' : (1 : Int) < (r.length : Int) := by omega
        cases dA with
        | true =>
          go_wp2_with (first
            | (go_at_call 11; refine Calls.mono cA ?_; clear cA; rintro e w7 ⟨rfl, hw⟩; have hw2 := hw.symm; clear hw; subst hw2)
            | (go_at_call 11; refine Calls.mono cB ?_; rintro e w7 ⟨rfl, hw⟩; have hw2 := hw.symm; clear hw; subst hw2))
          go_ret
          exact ⟨by rw [HRES.out]; simp [h1], rfl⟩
        | false =>
          go_wp2_with (go_at_call 11; refine cA.mono ?_; rintro e w7 ⟨rfl, hw⟩; have hw2 := hw.symm; clear hw; subst hw2)
          go_ret
          exact ⟨by rw [HRES.out]; simp, rfl⟩
      · have h1' : decide ((1 : Int) < (r.length : Int)) = false := decide_eq_false (by omega)
        go_wp2_with fail
        go_ret
        exact ⟨by rw [HRES.out, decide_eq_false h1]; rfl, rfl⟩
    · have HA2 : Hid (∀ i, i < j + 1 → r.getD i 0 ≠ 46) := fun i hi => by
        by_cases e : i = j
        · rw [e]; exact h46
        · exact HA.out i (by omega)
      have h46' : (r.getD j 0 == 46) = false := by simpa using h46
      clear h46
      generalize r.getD j 0 = y at hc h46'
      go_wp2_with fail
      go_round
      case rel => exact ⟨j + 1, rfl, by go_num, by omega, HA2.out⟩
      case measure => simp [intOf]; omega
  · obtain rfl : j = r.length := by omega
    have hres := gram_none l (by
      rw [← HR.out]
      have := noPt_of HA.out
      rw [List.take_length] at this
      exact this)
    rw [← HR.out] at hres
    have c11 := digits_any _ r c' w HL.out (by omega)
    generalize r.all dig = dr at c11 hres
    have HRES := hide_of hres
    clear hres
    by_cases h0 : 0 < r.length
    · have h0' : (0 : Int) < (r.length : Int) := by omega
      go_wp2_with (go_at_call 11; refine c11.mono ?_; rintro e w7 ⟨rfl, hw⟩; have hw2 := hw.symm; clear hw; subst hw2)
      go_ret
      exact ⟨by rw [HRES.out]; simp [h0], rfl⟩
    · have h0' : decide ((0 : Int) < (r.length : Int)) = false := decide_eq_false (by omega)
      go_wp2_with fail
      go_ret
      exact ⟨by rw [HRES.out, decide_eq_false h0]; rfl, rfl⟩
end Go.Proofs.Qxb6619267a
