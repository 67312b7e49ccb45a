/-
  The walks of 'cmpStr' (7), 'strings.Compare' (12).
-/
import Derived.Test.Qxb6619220aPlain
import Derived.Test.Qxb6619220aRows
import Derived.WalkKit
import Derived.WalkSpells
import Derived.WalkLawsBesides
import Derived.Lib.Strings
import Derived.Lib.Walk
import Derived.BigQuiet
import Derived.Deep.QuietTactic
namespace Go.Proofs.Qxb6619220a
open Go.RowKit Pl

theorem ret_i64 {a b : Int} (h : a = b) : Ending.returned (.int .i64 a) = .returned (.int .i64 b) := by rw [h]

set_option maxHeartbeats 1000000 in
set_option maxRecDepth 100000 in
theorem compareString_any (a b : ByteArray) (w : World) :
    Calls Try.prog 13 #[.string a, .string b] w fun e w' => e = .returned (.int .i64 (cmpS a b)) ∧ w' = w := by
  go_enter Try.func13, Try.ntmps13
  go_wp2
  rw [run_callFunc_extern Try.func14 (by kernel_rfl) (by kernel_rfl) (by kernel_rfl) (e := Extern.BytealgCompare.compare) (by kernel_rfl), Lib.run_compareString]
  simp only [Result.andThen]
  rw [Oper.upon_value]
  go_wp2
  go_ret
  exact ⟨rfl, rfl⟩

set_option maxHeartbeats 1000000 in
theorem compare_any (a b : ByteArray) (w : World) :
    Calls Try.prog 12 #[.string a, .string b] w fun e w' => e = .returned (.int .i64 (cmpS a b)) ∧ w' = w := by
  go_enter Try.func12, Try.ntmps12
  go_wp2_with (go_at_call 13; refine (compareString_any _ _ _).mono ?_; rintro e w' ⟨rfl, rfl⟩)
  go_ret
  exact ⟨rfl, rfl⟩

set_option maxHeartbeats 1000000 in
theorem cmpStr_any (a b : ByteArray) (w : World) (ha : a.size ≤ 9223372036854775807) (hb : b.size ≤ 9223372036854775807) :
    Calls Try.prog 7 #[.string a, .string b] w fun e w' => e = .returned (.int .i64 (cmpS a b)) ∧ ∃ m, w' = w.drewN m := by
  by_cases hab : b.size < a.size
  all_goals
    go_enter Try.func7, Try.ntmps7
    go_wp2
    go_loopw [6] (fun i wr => ∃ k m : Nat, k ≤ a.size ∧ k ≤ b.size ∧ i = .int .i64 k ∧ same a b k ∧ wr = w.drewN m) (fun i _ => a.size - (intOf i).toNat)
    case atStart => exact ⟨0, 0, Nat.zero_le _, Nat.zero_le _, rfl, rfl, rfl⟩
    case round =>
      obtain ⟨k, m, hka, hkb, rfl, hs, rfl⟩ := hrel
      have HS : Hid (same a b k) := hs
      clear hs
      by_cases hlt : k < a.size ∧ k < b.size
      · obtain ⟨hla, hlb⟩ := hlt
        have hla' : (k : Int) < (a.size : Int) := by omega
        have hlb' : (k : Int) < (b.size : Int) := by omega
        have hat := cmpS_at HS.out hla hlb
        have hss := same_succ HS.out hla hlb
        simp only [UInt8.lt_iff_toNat_lt] at hat hss
        by_cases h1 : a[k].toNat < b[k].toNat
        · have HF : Hid (cmpS a b = -1) := by show _ = _; rw [hat, if_pos h1]
          clear hat hss
          go_wp2_with fail
          go_quiet (fail)
          go_wp2
          go_ret
          exact ⟨ret_i64 HF.out.symm, _, by rw [World.drewN_drewN]⟩
        · rw [if_neg h1] at hat
          by_cases h2 : b[k].toNat < a[k].toNat
          · have HF : Hid (cmpS a b = 1) := by show _ = _; rw [hat, if_pos h2]
            clear hat hss
            go_wp2_with fail
            go_quiet (fail)
            go_wp2_with fail
            go_quiet (fail)
            go_wp2
            go_ret
            exact ⟨ret_i64 HF.out.symm, _, by rw [World.drewN_drewN, World.drewN_drewN]⟩
          · have HN : Hid (same a b (k + 1)) := hss h1 h2
            clear hat hss
            go_wp2_with fail
            go_quiet (fail)
            go_wp2_with fail
            go_quiet (fail)
            go_wp2
            go_roundw
            case rel => exact ⟨k + 1, _, by omega, by omega, by go_num, HN.out, rfl⟩
            case measure => simp [intOf]; omega
      · have HF : Hid (cmpS a b = if a.size < b.size then -1 else if b.size < a.size then 1 else 0) := cmpS_end HS.out (by omega) hka hkb
        go_wp2
        all_goals
          go_ret
          refine ⟨ret_i64 ?_, m, rfl⟩
          rw [HF.out]
          first | (rw [if_pos (by omega)]; done) | (rw [if_neg (by omega), if_pos (by omega)]; done) | (rw [if_neg (by omega), if_neg (by omega)]; done)
end Go.Proofs.Qxb6619220a
