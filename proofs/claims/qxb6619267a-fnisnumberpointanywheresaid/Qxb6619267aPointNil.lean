/-
  The walk of the law 'FnIsNumberPointAnywhere' (4) at a nil slice.
-/
import Derived.Test.Qxb6619267aPoint
namespace Go.Proofs.Qxb6619267a
open Go.RowKit Pl

set_option maxRecDepth 100000 in
set_option maxHeartbeats 4000000 in
theorem law4_nil (kk : Int) (w : World) : Calls Try.prog 4 #[.slice none 0 0, .int .i64 kk] w fun e w' => e = .returned (.bool true) ∧ Below w.heap.size w w' := by
  obtain ⟨i5, hi5, hz50, hz51, hz52⟩ := info_parts Try.info5
  have hq22 : ∀ (w : World) (a : Option Addr) (n c : Nat), (binOp .neq 22 (.slice a n c) (.slice none 0 0)).run Try.prog w = .ok (.bool (!a.isNone)) w := fun w a n c => run_neq_slice_nil_any w 22 5 a n c 0 0 Try.underlying22
  by_cases h3 : kk < 0
  · go_enter Try.func4, Try.ntmps4
    go_wp2_with (go_at_call 9; go_in)
    go_ret
    exact ⟨rfl, Below.refl _ _⟩
  have h3' : decide (kk < 0) = false := by simpa using h3
  by_cases h4 : 0 < kk
  · go_enter Try.func4, Try.ntmps4
    go_wp2_with (go_at_call 9; go_in)
    go_ret
    exact ⟨rfl, Below.refl _ _⟩
  obtain rfl : kk = 0 := by omega
  clear h3 h3' h4
  go_enter Try.func4, Try.ntmps4
  go_upto_region 12 with (first
    | (go_at_call 9; go_in)
    | (at_make; refine wpList_make_own _ rfl (.const (.int .i64 0)) (.tmp 38) 22 rfl w.heap.size 5 i5 (.int .u8 0) 1 Try.underlying22 hi5 hz50 hz51 .i64 .i64 _ 1 rfl rfl (by simp) (by rw [hz52]; omega) (by unfold maxLen; omega) (Nat.le_refl _) ?_; intro w3 hown3 hgrow3))
  have hb3 : Below w.heap.size w w3 := (Below.refl _ _).grown hgrow3 (Nat.le_refl _) (fun k hk => by cases hk)
  have hs3 := hb3.size
  have HO3 := hide_of hown3
  clear hown3 hgrow3
  go_upto_region 13 with (refine wpList_append_own_none (by rfl) (.tmp 40) (.tmp 43) 22 (by rfl) w.heap.size 5 i5 1 Try.underlying22 hi5 (.slice (some ⟨w.heap.size, 0, none⟩) 0 1) 0 [] (by rfl) HO3.out (by rfl) ?_)
  go_upto_region 14 with (at_builtin; refine wpList_append_own _ rfl (.tmp 45) (.tmp 46) 22 rfl w.heap.size 5 i5 (.int .u8 0) 1 1 Try.underlying22 hi5 hz50 hz51 hz52 rfl (by decide) (.slice (some ⟨w.heap.size, 0, none⟩) 0 1) 0 [] rfl (HO3.out.alloc _) ⟨w3.heap.size, 0, none⟩ 1 1 [.int .u8 46] rfl rfl (news_new (by simp)) (ints_oneCell .u8 [46]) (by unfold maxLen; omega) (by omega) (by simp; omega) ?_; intro v5 w5 hown5 hgrow5 _)
  have hb5 : Below w.heap.size w w5 := (hb3.alloc hs3 _).grown hgrow5 (by simp; omega) (fun k hk => (HO3.out.lt k hk).1)
  have HO5 : Hid (w5.ownsRow w.heap.size 5 1 v5 [(46 : Int)].length (U [46])) := hown5
  clear hgrow5 hown5 HO3 hb3 hs3
  go_upto_region 15 with (refine wpList_append_own_none (by rfl) (.tmp 48) (.tmp 51) 22 (by rfl) w.heap.size 5 i5 1 Try.underlying22 hi5 v5 [(46 : Int)].length (U [46]) (by rfl) HO5.out (by rfl) ?_)
  obtain ⟨gv, cv, e6, hLv⟩ := own_lst HO5.out (by simp)
  subst e6
  have c8 := num8 none [] 0 w5 (fun h => by simp at h) (by simp)
  have c8v := num8 (some ⟨gv, 0, none⟩) [46] cv w5 hLv (by simp)
  have e1 : isNum [] = false := rfl
  have e2 : isNum [46] = false := rfl
  rw [e1] at c8
  rw [e2] at c8v
  clear hLv HO5 e1 e2
  go_wp2_with fail
  refine c8.mono ?_
  rintro e w7 ⟨rfl, hw⟩
  have hw2 := hw.symm
  clear hw c8
  subst hw2
  go_wp2_with fail
  refine c8v.mono ?_
  rintro e w7 ⟨rfl, hw⟩
  have hw2 := hw.symm
  clear hw c8v
  subst hw2
  go_wp2_with fail
  refine wp_loop_rounds 1 ?_; rw [rounds_succ]
  go_wp2_with fail
  go_ret
  exact ⟨rfl, hb5⟩
end Go.Proofs.Qxb6619267a
