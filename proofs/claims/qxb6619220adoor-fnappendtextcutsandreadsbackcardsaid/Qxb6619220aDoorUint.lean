/-
  The walks of 'readUint' (11) and 'sameBytes' (8).
-/
import Derived.Test.Qxb6619220aDoorRead
import Derived.OwnWalk
namespace Go.Proofs.Qxb6619220aDoor
open Go.RowKit Pl
open Go.Lib (byteCells)

theorem dec_zero : Lib.decDigits 0 = [48] := by rw [Lib.decDigits_one (by omega)]; rfl

theorem ret3 {u v a b : Int} (h1 : u = v) (h : a = b) : Ending.returned (.tuple #[.int .u64 u, .int .i64 a, .bool true]) = .returned (.tuple #[.int .u64 v, .int .i64 b, .bool true]) := by rw [h, h1]

theorem getD_mem {l : List UInt8} {k : Nat} (h : k < l.length) : l.getD k 0 ∈ l := by
  rw [List.getD_eq_getElem?_getD, List.getElem?_eq_getElem h]; exact List.getElem_mem _

theorem dig_step (l : List UInt8) (k : Nat) (h : k < l.length) : digVal (l.take (k + 1)) = digVal (l.take k) * 10 + ((l.getD k 0).toNat - 48) := by
  rw [List.take_succ_eq_append_getElem h, digVal_snoc, List.getD_eq_getElem?_getD, List.getElem?_eq_getElem h]; rfl

set_option maxRecDepth 100000 in
set_option maxHeartbeats 2000000 in
theorem uint_read (b off c p u : Nat) (cc : UInt8) (T : List UInt8) (w : World) (hB : Byts w b off T) (hat : At T p (Lib.decDigits u ++ [cc])) (hcc : cc = 44 ∨ cc = 125) (hT : T.length ≤ 70368744177664) (hu : u < 18446744073709551616) :
    Calls Tryd.prog 11 #[.slice (some ⟨b, off, none⟩) T.length c, .int .i64 p] w fun e w' => e = .returned (.tuple #[.int .u64 u, .int .i64 ((p + (Lib.decDigits u).length : Nat) : Int), .bool true]) ∧ w' = w := by
  have hcn : cc.toNat = 44 ∨ cc.toNat = 125 := by rcases hcc with rfl | rfl <;> simp
  clear hcc
  by_cases h0 : u = 0
  · subst h0
    rw [dec_zero] at hat ⊢
    have hl := hat.1
    simp only [List.length_append, List.length_cons, List.length_nil] at hl
    have hc0 : w.cell? ⟨b, off + p, none⟩ = some (.int .u8 48) := hB.cell hat 0 rfl rfl
    have hc1 : w.cell? ⟨b, off + (p + 1), none⟩ = some (.int .u8 (cc.toNat : Int)) := hB.cell hat 1 rfl rfl
    have hl1 : (p : Int) < (T.length : Int) := by omega
    have hl2 : (p : Int) + 1 < (T.length : Int) := by omega
    rcases hcn with hcn | hcn
    all_goals
      rw [hcn] at hc1
      clear hcn hB hat
      go_enter Tryd.func11, Tryd.ntmps11
      go_wp2
      go_ret3
      exact ⟨ret3 rfl (by simp), rfl⟩
  · obtain ⟨hv, hd, hn⟩ := dec_digits u
    obtain ⟨d0, r, hdr, hd0⟩ := hn (by omega)
    have hD0 : 0 < (Lib.decDigits u).length := by rw [hdr]; simp
    have HB : Hid (Byts w b off T) := hB
    have HA : Hid (At T p (Lib.decDigits u ++ [cc])) := hat
    have HD : Hid (∀ c ∈ Lib.decDigits u, 48 ≤ c.toNat ∧ c.toNat ≤ 57) := hd
    have HV : Hid (digVal (Lib.decDigits u) = u) := hv
    have hl := hat.1
    rw [List.length_append] at hl
    simp only [List.length_cons, List.length_nil] at hl
    have hbyte : ∀ k, k < (Lib.decDigits u).length → w.cell? ⟨b, off + (p + k), none⟩ = some (.int .u8 (((Lib.decDigits u).getD k 0).toNat : Int)) := fun k hk => by
      have := hB (p + k) (by omega)
      rw [hat.left.2 k hk] at this
      exact this
    have hlast : w.cell? ⟨b, off + (p + (Lib.decDigits u).length), none⟩ = some (.int .u8 (cc.toNat : Int)) := by
      have := hB (p + (Lib.decDigits u).length) (by omega)
      rw [(At.hd hat.right).2] at this
      exact this
    have HY := hide_of hbyte
    have HL := hide_of hlast
    have hfirst : ((Lib.decDigits u).getD 0 0).toNat ≠ 48 := by rw [hdr]; exact hd0
    have hb0 := hd _ (getD_mem hD0)
    have hc0 := hbyte 0 hD0
    rw [Nat.add_zero] at hc0
    clear hbyte hlast hB hat hd hv hn hdr hd0
    generalize ((Lib.decDigits u).getD 0 0).toNat = g0 at *
    have hl1 : (p : Int) < (T.length : Int) := by omega
    have ht1 : ¬ (g0 : Int) < 48 := by omega
    have ht2 : ¬ (57 : Int) < g0 := by omega
    have ht3 : ((g0 : Int) == 48) = false := by simp; omega
    go_enter Tryd.func11, Tryd.ntmps11
    go_wp2
    go_loop [1, 7] (fun ps vs => ∃ k q V : Nat, ps = .int .i64 q ∧ vs = .int .u64 V ∧ k ≤ (Lib.decDigits u).length ∧ q = p + k ∧ V = digVal ((Lib.decDigits u).take k)) (fun ps _ => T.length - (intOf ps).toNat)
    case atStart => exact ⟨0, p, 0, by go_num, rfl, Nat.zero_le _, rfl, rfl⟩
    case round =>
      clear hc0 ht1 ht2 ht3 hfirst hb0
      obtain ⟨k, q, V, rfl, rfl, hk, hq, hV⟩ := hrel
      by_cases hlt : k < (Lib.decDigits u).length
      · have hc := HY.out k hlt
        have hdb := HD.out _ (getD_mem hlt)
        have hst := dig_step (Lib.decDigits u) k hlt
        have hle := digVal_take_le (Lib.decDigits u) (k + 1)
        rw [HV.out] at hle
        rw [← hq] at hc
        rw [← hV] at hst
        have HQ := hide_of hq
        have HST := hide_of hst
        rw [hst] at hle
        clear hst hV
        generalize ((Lib.decDigits u).getD k 0).toNat = g at *
        have hl2 : (q : Int) < (T.length : Int) := by omega
        clear hq
        have hx1 : (48 : Int) ≤ g := by omega
        have hx2 : (g : Int) ≤ 57 := by omega
        have hx3 : (V : Int) * 10 + ((g : Int) - 48) < 18446744073709551616 := by omega
        have hx4 : ¬ (18446744073709551615 - ((g : Int) - 48)) / 10 < (V : Int) := by omega
        go_wp2
        go_round
        case rel => exact ⟨k + 1, q + 1, V * 10 + (g - 48), by go_num, by congr 1; push_cast; omega, by omega, by have := HQ.out; omega, HST.out.symm⟩
        case measure => simp [intOf]; omega
      · obtain rfl : k = (Lib.decDigits u).length := by omega
        rw [List.take_length, HV.out] at hV
        subst hV
        have hc := HL.out
        rw [← hq] at hc
        have HQ := hide_of hq
        have hl2 : (q : Int) < (T.length : Int) := by omega
        clear hq
        rcases hcn with hcn | hcn
        all_goals
          rw [hcn] at hc
          clear hcn
          go_wp2
          go_ret3
          exact ⟨ret3 rfl (by have := HQ.out; omega), rfl⟩

theorem below_drewN {B : Nat} {w w' : World} (h : Below B w w') : ∀ n, Below B w (w'.drewN n)
  | 0 => h
  | n + 1 => (below_drewN h n).drew

set_option maxHeartbeats 1000000 in
theorem same_any (b off c b2 off2 c2 : Nat) (T : List UInt8) (w : World) (h1 : Byts w b off T) (h2 : Byts w b2 off2 T) (hT : T.length ≤ 70368744177664) :
    Calls Tryd.prog 8 #[.slice (some ⟨b, off, none⟩) T.length c, .slice (some ⟨b2, off2, none⟩) T.length c2] w fun e w' => e = .returned (.bool true) ∧ Below w.heap.size w w' := by
  have H1 := hide_of h1
  have H2 := hide_of h2
  clear h1 h2
  go_enter Tryd.func8, Tryd.ntmps8
  go_wp2_with fail
  go_loopw [5] (fun i wr => ∃ k : Nat, i = .int .i64 k ∧ k ≤ T.length ∧ Below w.heap.size w wr) (fun i _ => T.length - (intOf i).toNat)
  case atStart => exact ⟨0, rfl, Nat.zero_le _, Below.refl _ _⟩
  case round =>
    obtain ⟨k, rfl, hk, hbr⟩ := hrel
    by_cases hlt : k < T.length
    · have hc1 := H1.out k hlt
      have hc2 := H2.out k hlt
      have hd1 := hc1
      have hd2 := hc2
      rw [← hbr.cell (World.block_lt_of_cell? _ _ hc1)] at hd1
      rw [← hbr.cell (World.block_lt_of_cell? _ _ hc2)] at hd2
      clear hc1 hc2
      generalize (T.getD k 0).toNat = g at *
      have hl2 : (k : Int) < (T.length : Int) := by omega
      go_wp2_with fail
      go_quiet (fail)
      go_wp2_with fail
      go_roundw
      case rel => exact ⟨k + 1, by go_num, by omega, below_drewN hbr _⟩
      case measure => simp [intOf]; omega
    · obtain rfl : k = T.length := by omega
      go_wp2_with fail
      go_ret
      exact ⟨rfl, hbr⟩
end Go.Proofs.Qxb6619220aDoor
