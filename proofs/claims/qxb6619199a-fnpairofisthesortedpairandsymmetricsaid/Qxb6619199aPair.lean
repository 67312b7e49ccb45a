/-
  'pairOf' and its hand-on 'ZZPairOf'.
-/
import Derived.Test.Qxb6619199aRows
import Derived.WalkKit
import Derived.WalkSpells
import Derived.WalkLawsBesides
namespace Go.Proofs.Qxb6619199a
open Go.RowKit

theorem less_irrefl : ∀ x : List UInt8, Op.bytesLess x x = false
  | [] => rfl
  | a :: x => by simp [Op.bytesLess, less_irrefl x]

theorem less_asymm : ∀ x y : List UInt8, Op.bytesLess x y = true → Op.bytesLess y x = false
  | [], [] => by simp [Op.bytesLess]
  | [], _ :: _ => by simp [Op.bytesLess]
  | _ :: _, [] => by simp [Op.bytesLess]
  | a :: x, b :: y => by
    have ih := less_asymm x y
    simp only [Op.bytesLess, Bool.or_eq_true, decide_eq_true_eq, Bool.and_eq_true, beq_iff_eq, Bool.or_eq_false_iff, decide_eq_false_iff_not, Bool.and_eq_false_iff, UInt8.lt_iff_toNat_lt]
    rintro (h | ⟨rfl, h⟩)
    · exact ⟨by omega, .inl (by simp; intro e; subst e; omega)⟩
    · exact ⟨by omega, .inr (ih h)⟩

theorem less_total : ∀ x y : List UInt8, Op.bytesLess x y = false → Op.bytesLess y x = false → x = y
  | [], [] => by simp
  | [], _ :: _ => by simp [Op.bytesLess]
  | _ :: _, [] => by simp [Op.bytesLess]
  | a :: x, b :: y => by
    have ih := less_total x y
    simp only [Op.bytesLess, Bool.or_eq_false_iff, decide_eq_false_iff_not, Bool.and_eq_false_iff, UInt8.lt_iff_toNat_lt]
    rintro ⟨h1, h2⟩ ⟨h3, h4⟩
    have e : a = b := UInt8.toNat_inj.1 (by omega)
    subst e
    simp at h2 h4
    rw [ih h2 h4]

set_option maxHeartbeats 400000 in
theorem pair_gt (a b : ByteArray) (w : World) (h : Op.bytesLess b.toList a.toList = true) :
    Calls Try.prog 8 #[.string a, .string b] w fun e w' => e = .returned (.agg #[.string b, .string a]) ∧ w' = w.alloc (.cells #[.string b, .string a] 26) := by
  go_enter Try.func8, Try.ntmps8
  go_wp2
  exact bodyPost_ret (v := .agg #[.string b, .string a]) (by simp [results, Try.results8, go_sem]) rfl ⟨rfl, rfl⟩

set_option maxHeartbeats 400000 in
theorem pair_le (a b : ByteArray) (w : World) (h : Op.bytesLess b.toList a.toList = false) :
    Calls Try.prog 8 #[.string a, .string b] w fun e w' => e = .returned (.agg #[.string a, .string b]) ∧ w' = w.alloc (.cells #[.string a, .string b] 26) := by
  go_enter Try.func8, Try.ntmps8
  go_wp2
  exact bodyPost_ret (v := .agg #[.string a, .string b]) (by simp [results, Try.results8, go_sem]) rfl ⟨rfl, rfl⟩

set_option maxHeartbeats 400000 in
theorem zz_gt (a b : ByteArray) (w : World) (h : Op.bytesLess b.toList a.toList = true) :
    Calls Try.prog 6 #[.string a, .string b] w fun e w' => e = .returned (.agg #[.string b, .string a]) ∧ w' = (w.alloc (.cells #[.string b, .string a] 23)).alloc (.cells #[.string b, .string a] 26) := by
  go_enter Try.func6, Try.ntmps6
  go_wp2_with (go_at_call 8; refine (pair_gt a b _ h).mono ?_; rintro e w' ⟨rfl, rfl⟩)
  exact bodyPost_ret (v := .agg #[.string b, .string a]) (by simp [results, Try.results6, go_sem]) rfl ⟨rfl, rfl⟩

set_option maxHeartbeats 400000 in
theorem zz_le (a b : ByteArray) (w : World) (h : Op.bytesLess b.toList a.toList = false) :
    Calls Try.prog 6 #[.string a, .string b] w fun e w' => e = .returned (.agg #[.string a, .string b]) ∧ w' = (w.alloc (.cells #[.string a, .string b] 23)).alloc (.cells #[.string a, .string b] 26) := by
  go_enter Try.func6, Try.ntmps6
  go_wp2_with (go_at_call 8; refine (pair_le a b _ h).mono ?_; rintro e w' ⟨rfl, rfl⟩)
  exact bodyPost_ret (v := .agg #[.string a, .string b]) (by simp [results, Try.results6, go_sem]) rfl ⟨rfl, rfl⟩

theorem eq_pair (d : Nat) (x y : ByteArray) (w : World) : (Op.equalIn (d + 2) 23 (.agg #[.string x, .string y]) (.agg #[.string x, .string y])).run Try.prog w = .ok true w := by
  have hs : ∀ w, (sizeOf 9).run Try.prog w = .ok 1 w := fun w => by kernel_rfl
  have hp0 : ∀ w, (part 9 #[.string x, .string y] 0).run Try.prog w = .ok (.string x) w := fun w => by kernel_rfl
  have hp1 : ∀ w, (part 9 #[.string x, .string y] 1).run Try.prog w = .ok (.string y) w := fun w => by kernel_rfl
  have he : ∀ (z : ByteArray) w, (Op.equalIn (d + 1) 9 (.string z) (.string z)).run Try.prog w = .ok true w := fun z w => by
    rw [run_equalIn_string w d 9 z z Try.underlying9]; simp
  rw [Op.equalIn]
  simp only [Sem.run_bind, run_underlying Try.underlying23, Result.andThen_ok, hs]
  simp
  rw [show List.range' 0 2 = [0, 1] from rfl]
  simp [hp0, hp1, he]

theorem eql_pair (x y : ByteArray) (w : World) : (binOp .eql 23 (.agg #[.string x, .string y]) (.agg #[.string x, .string y])).run Try.prog w = .ok (.bool true) w := by
  rw [run_eql_struct, eq_pair 9998]
  rfl
set_option maxRecDepth 100000 in
set_option maxHeartbeats 1000000 in
theorem law_gt (a b : ByteArray) (w : World) (hs : a.size + b.size ≤ 1048576) (h : Op.bytesLess b.toList a.toList = true) (h2 : Op.bytesLess a.toList b.toList = false) (hne : (b.toList == a.toList) = false) :
    Calls Try.prog 3 #[.string a, .string b] w fun e w' => e = .returned (.bool true) ∧ Grown w w' := by
  have g1 : decide ((1048576 : Int) < (a.size : Int)) = false := by simp; omega
  have heq := eql_pair
  go_enter Try.func3, Try.ntmps3
  go_wp2_with (first | (go_at_call 5; go_in) | (go_at_call 6; refine (zz_gt a b _ h).mono ?_; rintro e w' ⟨rfl, rfl⟩) | (go_at_call 6; refine (zz_le b a _ h2).mono ?_; rintro e w' ⟨rfl, rfl⟩))
  all_goals
    go_ret
    exact ⟨rfl, by repeat (first | exact Grown.refl _ | apply Grown.drew | apply Grown.alloc)⟩

set_option maxRecDepth 100000 in
set_option maxHeartbeats 1000000 in
theorem law_lt (a b : ByteArray) (w : World) (hs : a.size + b.size ≤ 1048576) (h : Op.bytesLess b.toList a.toList = false) (h2 : Op.bytesLess a.toList b.toList = true) :
    Calls Try.prog 3 #[.string a, .string b] w fun e w' => e = .returned (.bool true) ∧ Grown w w' := by
  have g1 : decide ((1048576 : Int) < (a.size : Int)) = false := by simp; omega
  have heq := eql_pair
  go_enter Try.func3, Try.ntmps3
  go_wp2_with (first | (go_at_call 5; go_in) | (go_at_call 6; refine (zz_le a b _ h).mono ?_; rintro e w' ⟨rfl, rfl⟩) | (go_at_call 6; refine (zz_gt b a _ h2).mono ?_; rintro e w' ⟨rfl, rfl⟩))
  all_goals
    go_ret
    exact ⟨rfl, by repeat (first | exact Grown.refl _ | apply Grown.drew | apply Grown.alloc)⟩

set_option maxRecDepth 100000 in
set_option maxHeartbeats 1000000 in
theorem law_eq (a : ByteArray) (w : World) (hs : a.size + a.size ≤ 1048576) :
    Calls Try.prog 3 #[.string a, .string a] w fun e w' => e = .returned (.bool true) ∧ Grown w w' := by
  have g1 : decide ((1048576 : Int) < (a.size : Int)) = false := by simp; omega
  have heq := eql_pair
  have h := less_irrefl a.toList
  go_enter Try.func3, Try.ntmps3
  go_wp2_with (first | (go_at_call 5; go_in) | (go_at_call 6; refine (zz_le a a _ h).mono ?_; rintro e w' ⟨rfl, rfl⟩))
  all_goals
    go_ret
    exact ⟨rfl, by repeat (first | exact Grown.refl _ | apply Grown.drew | apply Grown.alloc)⟩

set_option maxHeartbeats 1000000 in
theorem law_long (a b : ByteArray) (w : World) (ha : a.size ≤ 9223372036854775807) (hb : b.size ≤ 9223372036854775807) (hs : 1048576 < a.size + b.size) :
    Calls Try.prog 3 #[.string a, .string b] w fun e w' => e = .returned (.bool true) ∧ Grown w w' := by
  go_enter Try.func3, Try.ntmps3
  go_wp2
  all_goals
    go_ret
    exact ⟨rfl, Grown.refl _⟩
end Go.Proofs.Qxb6619199a
