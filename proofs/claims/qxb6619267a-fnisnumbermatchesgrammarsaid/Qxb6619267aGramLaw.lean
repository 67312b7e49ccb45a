/-
  The walk of the law 'FnIsNumberMatchesGrammar' (3).
-/
import Derived.Test.Qxb6619267aGram
namespace Go.Proofs.Qxb6619267a
open Go.RowKit Pl

theorem zz6_yes (a : Option Addr) (n c : Nat) (w : World) (hn : n ≤ 1048576) : Calls Try.prog 6 #[.slice a n c] w fun e w' => e = .returned (.bool true) ∧ w' = w := by
  go_enter Try.func6, Try.ntmps6
  go_wp2
  go_ret
  exact ⟨rfl, rfl⟩
theorem zz6_no (a : Option Addr) (n c : Nat) (w : World) (hn : 1048576 < n) (hn2 : n ≤ 9223372036854775807) : Calls Try.prog 6 #[.slice a n c] w fun e w' => e = .returned (.bool false) ∧ w' = w := by
  go_enter Try.func6, Try.ntmps6
  go_wp2
  go_ret
  exact ⟨rfl, rfl⟩

set_option maxRecDepth 100000 in
set_option maxHeartbeats 4000000 in
theorem law3_any (a : Option Addr) (l : List Int) (c : Nat) (w : World) (hI : Lst w a l) (hnil : a = none → l.length = 0 ∧ c = 0) (hn : l.length ≤ 9223372036854775807) :
    Calls Try.prog 3 #[.slice a l.length c] w fun e w' => e = .returned (.bool true) ∧ Below w.heap.size w w' := by
  obtain ⟨i5, hi5, hz50, hz51, hz52⟩ := info_parts Try.info5
  have hsz5 : (Try.prog.info? 5).map (·.size) = some 1 := by rw [hi5]; simp [hz51]
  have hq22 : ∀ (w : World) (a : Option Addr) (n c : Nat), (binOp .neq 22 (.slice a n c) (.slice none 0 0)).run Try.prog w = .ok (.bool (!a.isNone)) w := fun w a n c => run_neq_slice_nil_any w 22 5 a n c 0 0 Try.underlying22
  have HI := hide_of hI
  have HN := hide_of hnil
  clear hI hnil
  by_cases h1 : 1048576 < l.length
  · go_enter Try.func3, Try.ntmps3
    go_wp2_with (go_at_call 6; refine (zz6_no _ _ _ _ (by omega) hn).mono ?_; rintro e w7 ⟨rfl, hw⟩; have hw2 := hw.symm; clear hw; subst hw2)
    go_ret
    exact ⟨rfl, Below.refl _ _⟩
  by_cases h2 : 65536 < l.length
  · go_enter Try.func3, Try.ntmps3
    go_wp2_with (go_at_call 6; refine (zz6_yes _ _ _ _ (by omega)).mono ?_; rintro e w7 ⟨rfl, hw⟩; have hw2 := hw.symm; clear hw; subst hw2)
    go_ret
    exact ⟨rfl, Below.refl _ _⟩
  have hn' : l.length ≤ 65536 := by omega
  clear hn h1 h2
  go_enter Try.func3, Try.ntmps3
  go_upto_if 12 with (go_at_call 6; refine (zz6_yes _ _ _ _ (by omega)).mono ?_; rintro e w7 ⟨rfl, hw⟩; have hw2 := hw.symm; clear hw; subst hw2)
  go_cut [0, 3] (fun s0 _ wx => ∃ a1 c1, s0 = .slice a1 l.length c1 ∧ Form a1 l.length c1 ∧ Lst wx a1 l ∧ Below w.heap.size w wx)
  case first =>
    cases a with
    | none =>
      obtain ⟨h0, rfl⟩ := HN.out rfl
      obtain rfl : l = [] := List.eq_nil_of_length_eq_zero h0
      go_wp2_with fail
      go_meet
      exact ⟨none, 0, rfl, .inl ⟨rfl, rfl, rfl⟩, HI.out, Below.refl _ _⟩
    | some x =>
      go_wp2_with (first
        | (at_make; refine wpList_make_full _ rfl (.tmp 14) (.tmp 14) 22 rfl w.heap.size 5 i5 (.int .u8 0) 1 Try.underlying22 hi5 hz50 hz51 .i64 .i64 _ _ l.length rfl rfl rfl rfl (by rw [hz52]; omega) (by unfold maxLen; omega) (Nat.le_refl _) ?_; intro w1 hown1 hgrow1; have hb1 : Below w.heap.size w w1 := (Below.refl _ _).grown hgrow1 (Nat.le_refl _) (fun k hk => by cases hk); have hg1 := block_of_full hown1; clear hown1 hgrow1)
        | (refine wpList_copy_splice (by rfl) (.tmp 16) (.tmp 17) 22 22 (by rfl) 5 Try.underlying22 hsz5 (some ⟨w.heap.size, 0, none⟩) (some x) l.length l.length l.length c (by rfl) (by rfl) w.heap.size 0 _ 5 hg1 (U l) (by simp) (fun h => ⟨rfl, U_src HI.out hb1 h⟩) (by rw [cells_made]; simp) (U_one l) w.heap.size w hb1 (Nat.le_refl _) ?_; intro w2 HG2 hB2))
      go_meet
      have hg2 : w2.heap[w.heap.size]? = some (.cells (U l).toArray 5 (0, 0)) := by
        have := HG2.out
        rw [splice_all _ _ (by rw [cells_made]; simp)] at this
        exact this
      exact ⟨_, l.length, rfl, .inr ⟨w.heap.size, rfl, rfl⟩, U_lst hg2, hB2⟩
  case rest =>
  obtain ⟨a1, c1, e, hf1, hL1, hb1⟩ := hcut
  subst e
  rename World => w1
  have c7 := gram7 a1 l c1 w1 hL1 hf1 hn'
  have c8 := num8 a1 l c1 w1 hL1 (by omega)
  generalize isNum l = BA at c7 c8
  clear hf1 hL1 HI HN
  go_wp2_with fail
  refine c7.mono ?_
  rintro e w7 ⟨rfl, hw⟩
  have hw2 := hw.symm
  clear hw c7
  subst hw2
  go_wp2_with fail
  refine c8.mono ?_
  rintro e w7 ⟨rfl, hw⟩
  have hw2 := hw.symm
  clear hw c8
  subst hw2
  cases BA
  all_goals
    go_wp2_with fail
    go_ret
    exact ⟨rfl, hb1⟩
end Go.Proofs.Qxb6619267a
