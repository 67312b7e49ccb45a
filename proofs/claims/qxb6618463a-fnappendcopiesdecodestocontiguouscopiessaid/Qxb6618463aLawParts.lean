/-
  The walk of the law (function 3).
-/
import Derived.Test.Qxb6618463aCopies
import Derived.Laws.CopyOwn
import Derived.BigQuiet
import Derived.Deep.QuietTactic
namespace Go.Proofs.Qxb6618463a
open Go.RowKit Pl

theorem out_cells {w : World} {base : Nat} {xs : List Int} {offset n : Int} {a' : Option Addr} {c' : Nat}
    (hout : w.ownsRow base 5 1 (.slice a' (xs ++ encTo offset n (want n)).length c') (xs ++ encTo offset n (want n)).length (U (xs ++ encTo offset n (want n)))) (K : Nat) (hK : K < want n) :
    ∃ g, a' = some ⟨g, 0, none⟩ ∧ ∀ j, j < (one (offAt offset K) (sizeAt n K)).length → w.cell? ⟨g, xs.length + (encTo offset n K).length + j, none⟩ = some (.int .u8 ((one (offAt offset K) (sizeAt n K)).getD j 0)) := by
  obtain ⟨hfit, hat⟩ := enc_at offset n K (want n) hK
  have hp := one_pos (offAt offset K) (sizeAt n K)
  obtain ⟨g, cap, hv, _, _⟩ := hout.form (by simp; omega)
  simp only [Value.slice.injEq] at hv
  obtain ⟨rfl, _, rfl⟩ := hv
  refine ⟨g, rfl, fun j hj => ?_⟩
  rw [hout.cellAt _ (by simp; omega)]
  have hlt : (encTo offset n K).length + j < (encTo offset n (want n)).length := by omega
  have h := hat j hj
  simp only [List.getD_eq_getElem?_getD] at h ⊢
  rw [← h]
  simp only [U, List.map_append]
  rw [List.getElem?_append_right (by simp; omega)]
  simp only [List.length_map, Nat.add_assoc, Nat.add_sub_cancel_left, List.getElem?_map, List.getElem?_eq_getElem hlt, Option.map_some, Option.getD_some]

/-- The slice's own cells, read in a later world. -/
theorem src_cells {w w1 : World} {x : Addr} {len : Nat} {zs : List Int} (hcell : ∀ i, i < zs.length → w.cell? (x.add i) = some (.int .u8 (zs.getD i 0))) (hl : len ≤ zs.length) (hb : Below w.heap.size w w1) :
    ∀ j v, (U (zs.take len))[j]? = some v → w1.cell? (x.add j) = some v := by
  intro j v hv
  have hj : j < len := by
    have := (List.getElem?_eq_some_iff.1 hv).1
    simp at this; omega
  have h := hcell j (by omega)
  rw [hb.cell (World.block_lt_of_cell? _ _ h), h]
  have e : (U (zs.take len))[j]? = some (.int .u8 (zs.getD j 0)) := by
    simp [U, hj, List.getD, show j < zs.length by omega]
  rw [e] at hv
  exact hv

theorem block_of_full {w : World} {base : Nat} {e : TypeId} {g n : Nat} {xs : List Value} (h : w.ownsRow base e 1 (.slice (some ⟨g, 0, none⟩) n n) n xs) : w.heap[g]? = some (.cells xs.toArray e (0, 0)) := by
  rcases h.2 with ⟨h', _⟩ | ⟨g', cap', cur, h', _, hg, _, _, hcs, htake⟩
  · simp at h'
  · simp only [Value.slice.injEq, Option.some.injEq, Addr.mk.injEq, and_true, true_and] at h'
    obtain ⟨rfl, rfl⟩ := h'
    rw [hg, ← htake, List.take_of_length_le (by simp; omega)]

theorem full_of_block {w : World} {base : Nat} {e : TypeId} {g n : Nat} {xs : List Value} (h : w.heap[g]? = some (.cells xs.toArray e (0, 0))) (hn : xs.length = n) (hb : base ≤ g) (hm : n ≤ maxLen) :
    w.ownsRow base e 1 (.slice (some ⟨g, 0, none⟩) n n) n xs :=
  ⟨by omega, .inr ⟨g, n, xs.toArray, rfl, hb, h, Nat.le_refl _, hm, by simp [hn], by simp [List.take_of_length_le, hn]⟩⟩

theorem block_lt {w : World} {g : Nat} {o : Obj} (h : w.heap[g]? = some o) : g < w.heap.size := (Array.getElem?_eq_some_iff.1 h).1

theorem splice_all {α : Type} (Z cs : List α) (h : cs.length = Z.length) : splice Z 0 cs = cs := by
  simp [splice, h]

theorem cells_made (n : Nat) : (madeCells (Value.int .u8 0).cells (n * 1)).toList.length = n := by simp [Value.cells, toList_madeCells_one]

theorem cell_blk {w : World} {g : Nat} {xs : List Int} (h : w.heap[g]? = some (.cells (U xs).toArray 5 (0, 0))) (j : Nat) (hj : j < xs.length) : w.cell? ⟨g, j, none⟩ = some (.int .u8 (xs.getD j 0)) := by
  rw [cell_of_row w g j _ 5 (0, 0) h]
  simp [U, List.getD, hj]

theorem one_bytes (xs : List Int) : ∀ v ∈ U xs, v.oneCell' = true := ints_oneCell _ _

theorem own_below {w w' : World} {base : Nat} {e : TypeId} {size : Nat} {v : Value} {n : Nat} {xs : List Value} (h : w.ownsRow base e size v n xs) (hb : Below w.heap.size w w') : w'.ownsRow base e size v n xs :=
  h.kept (row := none) ⟨hb.os, hb.tape, hb.output, hb.size, fun k hk _ => hb.block k hk⟩ (by cases v.ownBlock <;> simp)

theorem out_pre {w : World} {base : Nat} {xs ys : List Int} {a' : Option Addr} {c' : Nat} (hout : w.ownsRow base 5 1 (.slice a' (xs ++ ys).length c') (xs ++ ys).length (U (xs ++ ys))) (k : Nat) (hk : k < xs.length) :
    ∃ g, a' = some ⟨g, 0, none⟩ ∧ w.cell? ⟨g, k, none⟩ = some (.int .u8 (xs.getD k 0)) := by
  obtain ⟨g, cap, hv, _, _⟩ := hout.form (by simp; omega)
  simp only [Value.slice.injEq] at hv
  obtain ⟨rfl, _, rfl⟩ := hv
  refine ⟨g, rfl, ?_⟩
  rw [hout.cellAt _ (by simp; omega)]
  simp [U, List.getElem?_append_left, hk, List.getD]

theorem zz_neg (base : Nat) (v : Value) (xs : List Int) (offset n : Int) (w : World) (hown : w.ownsRow base 5 1 v xs.length (U xs)) (hb : base ≤ w.heap.size)
    (hx : xs.length ≤ 1048576) (hn : n ≤ 0) (hn0 : -9223372036854775808 ≤ n) (ho0 : -9223372036854775808 ≤ offset) (ho1 : offset ≤ 9223372036854775807) :
    Calls Try.prog 5 #[v, .int .i64 offset, .int .i64 n] w fun e w' => ∃ v', e = .returned v' ∧ w'.ownsRow base 5 1 v' xs.length (U xs) ∧ Below base w w' := by
  have h := zz_any base v xs offset n w hown hb hx (by omega) hn0 ho0 ho1
  have h0 : want n = 0 := by unfold want; rw [if_pos hn]
  rw [h0] at h
  simpa only [encTo, List.append_nil] using h

theorem and_bit (q s : Int) (i : Nat) (hi : i < 4) : bits BinOp.and IntKind.u8 (head q s : Int) (2 ^ i % 256) = if byteAt q i = 0 then 0 else 2 ^ i := by
  have hm := maskTo_lt q 4
  have hm3 := maskTo_lt s 3
  have hp : (2 : Nat) ^ i ≤ 8 := by
    have : (2 : Nat) ^ i ≤ 2 ^ 3 := Nat.pow_le_pow_right (by decide) (by omega)
    omega
  have e : ((2 : Int) ^ i % 256) = ((2 ^ i : Nat) : Int) := by
    have : ((2 : Int) ^ i) = ((2 ^ i : Nat) : Int) := by simp
    rw [this]
    generalize (2 : Nat) ^ i = P at *
    omega
  have hh := head_lt q s
  rw [e, u8_and_nat _ _ (by omega) (by omega)]
  unfold head
  rw [and_off i hi (maskTo q 4) (by omega) (maskTo s 3) (by omega), mask4_bit q i hi]
  split <;> simp

theorem and_bit3 (q s : Int) (i : Nat) (hi : i < 3) : bits BinOp.and IntKind.u8 (head q s : Int) (16 * 2 ^ i % 256) = if byteAt s i = 0 then 0 else 16 * 2 ^ i := by
  have hm := maskTo_lt q 4
  have hm3 := maskTo_lt s 3
  have hp : (2 : Nat) ^ i ≤ 4 := by
    have : (2 : Nat) ^ i ≤ 2 ^ 2 := Nat.pow_le_pow_right (by decide) (by omega)
    omega
  have e : (16 * (2 : Int) ^ i % 256) = ((16 * 2 ^ i : Nat) : Int) := by
    have : ((2 : Int) ^ i) = ((2 ^ i : Nat) : Int) := by simp
    rw [this]
    generalize (2 : Nat) ^ i = P at *
    omega
  have hh := head_lt q s
  rw [e, u8_and_nat _ _ (by omega) (by omega)]
  unfold head
  rw [and_size i hi (maskTo q 4) (by omega) (maskTo s 3) (by omega), mask3_bit s i hi]
  split <;> simp

theorem or_low (q : Int) (j : Nat) (hj : j < 4) : bits BinOp.or IntKind.u32 (q % 2 ^ (8 * j)) (byteAt q j * 2 ^ (8 * j) % 4294967296) = q % 2 ^ (8 * (j + 1)) := by
  have hbd := byteAt_bd q j
  have hl := low_succ q j hj
  have hp : (2 : Nat) ^ (8 * j) ≤ 16777216 := by
    have : (2 : Nat) ^ (8 * j) ≤ 2 ^ 24 := Nat.pow_le_pow_right (by decide) (by omega)
    omega
  have hpos : 0 < (2 : Nat) ^ (8 * j) := Nat.two_pow_pos _
  have e : ((2 : Int) ^ (8 * j)) = ((2 ^ (8 * j) : Nat) : Int) := by simp
  rw [hl]
  obtain ⟨b, hb⟩ := Int.eq_ofNat_of_zero_le hbd.1
  rw [hb] at hbd ⊢
  rw [e]
  have hx0 := Int.emod_nonneg q (show ((2 ^ (8 * j) : Nat) : Int) ≠ 0 by omega)
  have hx1 := Int.emod_lt_of_pos q (show 0 < ((2 ^ (8 * j) : Nat) : Int) by omega)
  obtain ⟨x, hx⟩ := Int.eq_ofNat_of_zero_le hx0
  rw [hx] at hx1 ⊢
  have hor := Nat.two_pow_add_eq_or_of_lt (i := 8 * j) (b := x) (by omega) b
  have hlt : 2 ^ (8 * j) * b + x < 4294967296 := by
    have h1 : 2 ^ (8 * j) * b + x < 2 ^ (8 * j) * (b + 1) := by rw [Nat.mul_add]; omega
    have h2 : 2 ^ (8 * j) * (b + 1) ≤ 2 ^ (8 * j) * 256 := Nat.mul_le_mul_left _ (by omega)
    omega
  have e2 : (b : Int) * ((2 ^ (8 * j) : Nat) : Int) % 4294967296 = ((2 ^ (8 * j) * b : Nat) : Int) := by
    have e3 : (b : Int) * ((2 ^ (8 * j) : Nat) : Int) = ((2 ^ (8 * j) * b : Nat) : Int) := by rw [Int.natCast_mul, Int.mul_comm]
    rw [e3]
    omega
  rw [e2, u32_or_nat _ _ (by omega) (by omega), Nat.or_comm, ← hor, Int.natCast_add, Int.natCast_mul, Int.mul_comm, Int.add_comm]

theorem and_128 (q s : Int) : bits BinOp.and IntKind.u8 (head q s : Int) 128 = 128 := by
  have hm := maskTo_lt q 4
  have hm3 := maskTo_lt s 3
  have hh := head_lt q s
  have e : (128 : Int) = ((128 : Nat) : Int) := rfl
  rw [e, u8_and_nat _ _ (by omega) (by omega)]
  unfold head
  rw [and_top (maskTo q 4) (by omega) (maskTo s 3) (by omega)]

set_option maxRecDepth 100000 in
set_option maxHeartbeats 1000000 in
theorem law_long (a : Option Addr) (len cap : Nat) (offset n : Int) (w : World) (h : 1048576 < len) (hm : len ≤ 9223372036854775807) :
    Calls Try.prog 3 #[.slice a len cap, .int .i64 offset, .int .i64 n] w fun e w' => e = .returned (.bool true) ∧ Below w.heap.size w w' := by
  go_enter Try.func3, Try.ntmps3
  go_wp2
  go_ret
  exact ⟨rfl, Below.refl _ _⟩

set_option maxRecDepth 100000 in
set_option maxHeartbeats 1000000 in
theorem law_far (a : Option Addr) (len cap : Nat) (offset n : Int) (w : World) (h : len ≤ 1048576) (hn : 68719476736 < n) :
    Calls Try.prog 3 #[.slice a len cap, .int .i64 offset, .int .i64 n] w fun e w' => e = .returned (.bool true) ∧ Below w.heap.size w w' := by
  have hp : 0 < n := by omega
  go_enter Try.func3, Try.ntmps3
  go_wp2
  go_ret
  exact ⟨rfl, Below.refl _ _⟩

set_option maxRecDepth 100000 in
set_option maxHeartbeats 2000000 in
theorem law_nil_neg (offset n : Int) (w : World) (hp : n ≤ 0) (hn0 : -9223372036854775808 ≤ n) (ho0 : -9223372036854775808 ≤ offset) (ho1 : offset ≤ 9223372036854775807) :
    Calls Try.prog 3 #[.slice none 0 0, .int .i64 offset, .int .i64 n] w fun e w' => e = .returned (.bool true) ∧ Below w.heap.size w w' := by
  have hnil : ∀ (w : World) (a : Option Addr) (n c : Nat), (binOp .neq 22 (.slice a n c) (.slice none 0 0)).run Try.prog w = .ok (.bool (!a.isNone)) w := fun w a n c => run_neq_slice_nil_any w 22 5 a n c 0 0 Try.underlying22
  have hc : ¬ 68719476736 < n := by omega
  go_enter Try.func3, Try.ntmps3
  go_wp2_with (first | (go_at_call 5; refine (zz_neg w.heap.size _ [] offset n _ (World.ownsRow_nil _ _ _ _) (Nat.le_refl _) (by simp) hp hn0 ho0 ho1).mono ?_; rintro e wx ⟨v', rfl, hout, hbel⟩; obtain ⟨a', c', rfl⟩ := owns_form hout; simp only [List.length_nil]) | go_in)
  refine wp_loop_rounds 1 ?_; rw [rounds_succ]
  go_wp2
  refine wp_loop_rounds 1 ?_; rw [rounds_succ]
  go_wp2
  go_ret
  exact ⟨rfl, hbel⟩
end Go.Proofs.Qxb6618463a
