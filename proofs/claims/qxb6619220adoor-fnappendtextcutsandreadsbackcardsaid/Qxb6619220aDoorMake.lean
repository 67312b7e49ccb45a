/-
  The walk of 'ZZAppendText' (6).
-/
import Derived.Test.Qxb6619220aDoorText
namespace Go.Proofs.Qxb6619220aDoor
open Go.RowKit Pl
open Go.Lib (byteCells)

/-- n strings lie where a slice leads. -/
def Strs (w : World) (a : Option Addr) (n : Nat) (S : Nat → ByteArray) : Prop := 0 < n → ∃ b off, a = some ⟨b, off, none⟩ ∧ ∀ i, i < n → w.cell? ⟨b, off + i, none⟩ = some (.string (S i))
/-- n counters lie where a slice leads. -/
def Nums (w : World) (a : Option Addr) (n : Nat) (C : Nat → Nat) : Prop := 0 < n → ∃ b off, a = some ⟨b, off, none⟩ ∧ ∀ i, i < n → w.cell? ⟨b, off + i, none⟩ = some (.int .u64 (C i))

theorem Strs.below {w w1 : World} {a : Option Addr} {n : Nat} {S : Nat → ByteArray} (h : Strs w a n S) (hb : Below w.heap.size w w1) : Strs w1 a n S := by
  intro h0
  obtain ⟨b, off, e, h⟩ := h h0
  exact ⟨b, off, e, fun i hi => by rw [hb.cell (World.block_lt_of_cell? _ _ (h i hi))]; exact h i hi⟩
theorem Nums.below {w w1 : World} {a : Option Addr} {n : Nat} {C : Nat → Nat} (h : Nums w a n C) (hb : Below w.heap.size w w1) : Nums w1 a n C := by
  intro h0
  obtain ⟨b, off, e, h⟩ := h h0
  exact ⟨b, off, e, fun i hi => by rw [hb.cell (World.block_lt_of_cell? _ _ (h i hi))]; exact h i hi⟩
theorem Strs.at {w : World} {a : Option Addr} {n : Nat} {S : Nat → ByteArray} (h : Strs w a n S) (k : Nat) (hk : k < n) : ∃ b off, a = some ⟨b, off, none⟩ ∧ w.cell? ⟨b, off + k, none⟩ = some (.string (S k)) := by
  obtain ⟨b, off, e, h⟩ := h (by omega)
  exact ⟨b, off, e, h k hk⟩
theorem Nums.at {w : World} {a : Option Addr} {n : Nat} {C : Nat → Nat} (h : Nums w a n C) (k : Nat) (hk : k < n) : ∃ b off, a = some ⟨b, off, none⟩ ∧ w.cell? ⟨b, off + k, none⟩ = some (.int .u64 (C k)) := by
  obtain ⟨b, off, e, h⟩ := h (by omega)
  exact ⟨b, off, e, h k hk⟩

theorem own_below {w w' : World} {base : Nat} {e : TypeId} {size : Nat} {v : Value} {n : Nat} {xs : List Value} (h : w.ownsRow base e size v n xs) (hb : Below w.heap.size w w') : w'.ownsRow base e size v n xs :=
  h.kept (row := none) ⟨hb.os, hb.tape, hb.output, hb.size, fun k hk _ => hb.block k hk⟩ (by cases v.ownBlock <;> simp)

theorem Fr.of_below {B : Nat} {w w' : World} (h : Below w.heap.size w w') (hB : B ≤ w.heap.size) : Fr B w w' :=
  ⟨h.mono hB, fun k _ hk _ _ => (h.block k (Array.getElem?_eq_some_iff.1 hk).1).trans hk⟩

theorem block_of_owned {w : World} {base : Nat} {e : TypeId} {g n size : Nat} {xs : List Value} (h : w.ownsRow base e size (.slice (some ⟨g, 0, none⟩) n n) n xs) : ∃ cur, w.heap[g]? = some (.cells cur e (0, 0)) ∧ cur.size = n * size := by
  rcases h.2 with ⟨h', _⟩ | ⟨g', cap', cur, h', _, hg, _, _, hcs, _⟩
  · simp at h'
  · simp only [Value.slice.injEq, Option.some.injEq, Addr.mk.injEq, and_true, true_and] at h'
    obtain ⟨rfl, rfl⟩ := h'
    exact ⟨cur, hg, hcs⟩

theorem Tryd.info33 : (Tryd.prog.info? 33).map (fun i => (i.zero, i.size, i.bytes)) = some (some (.agg #[.string ⟨#[]⟩, .int .u64 0]), 2, 24) := by kernel_rfl

set_option maxHeartbeats 4000000 in
theorem zz_text (B n m c c2 : Nat) (a a2 : Option Addr) (v : Value) (xs : List Value) (S : Nat → ByteArray) (C : Nat → Nat) (w : World) (hown : w.ownsRow B 5 1 v n xs) (hb : B ≤ w.heap.size) (hA : Strs w a m S) (hC : Nums w a2 m C)
    (hsz : ∀ i, i < m → (S i).size ≤ 1048576 ∧ C i < 18446744073709551616) (hm : m ≤ 65536) (hn : n ≤ 1048576) (htab : Lib.TabBelow Tryd.prog B w powName .u64 Lib.pow10Tab) :
    Calls Tryd.prog 6 #[.slice a m c, .slice a2 m c2, v] w (App B n xs (textT S C m) w) := by
  obtain ⟨i0, hi, hz0, hz1, hz2⟩ := info_parts Tryd.info33
  have HO : Hid (w.ownsRow B 5 1 v n xs) := hown
  have HA : Hid (Strs w a m S) := hA
  have HC : Hid (Nums w a2 m C) := hC
  have HS : Hid (∀ i, i < m → (S i).size ≤ 1048576 ∧ C i < 18446744073709551616) := hsz
  have HT : Hid (Lib.TabBelow Tryd.prog B w powName .u64 Lib.pow10Tab) := htab
  clear hown hA hC hsz htab
  go_enter Tryd.func6, Tryd.ntmps6
  go_wp2_with (at_make; refine wpList_make_full _ rfl (.tmp 18) (.tmp 18) 30 rfl w.heap.size 33 i0 _ 2 Tryd.underlying30 hi hz0 hz1 .i64 .i64 _ _ m rfl rfl rfl rfl (by rw [hz2]; omega) (by unfold maxLen; omega) (Nat.le_refl _) ?_; intro w1 hown1 hgrow1)
  have hb1 : Below w.heap.size w w1 := (Below.refl _ _).grown hgrow1 (Nat.le_refl _) (fun k hk => by cases hk)
  clear hgrow1
  go_loopw [9] (fun i wr => ∃ (k : Nat) (cs : Array Value), i = .int .i64 k ∧ k ≤ m ∧ cs.size = m * 2 ∧ wr.heap[w.heap.size]? = some (.cells cs 33 (0, 0)) ∧ (∀ i, i < k → cs[i * 2]? = some (.string (S i)) ∧ cs[i * 2 + 1]? = some (.int .u64 (C i))) ∧ Below w.heap.size w wr) (fun i _ => m - (intOf i).toNat)
  case atStart =>
    obtain ⟨cur, hcur, hsz⟩ := block_of_owned hown1
    exact ⟨0, cur, rfl, Nat.zero_le _, hsz, hcur, fun i hi => by omega, hb1⟩
  case round =>
    clear hown1 hb1
    obtain ⟨k, cs, rfl, hk, hcs, hg, hdone, hbr⟩ := hrel
    have HG : Hid (wr.heap[w.heap.size]? = some (.cells cs 33 (0, 0))) := hg
    have HD : Hid (∀ i, i < k → cs[i * 2]? = some (.string (S i)) ∧ cs[i * 2 + 1]? = some (.int .u64 (C i))) := hdone
    clear hdone
    by_cases hlt : k < m
    · obtain ⟨b1, off1, rfl, hc1⟩ := (HA.out.below hbr).at k hlt
      obtain ⟨b2, off2, rfl, hc2⟩ := (HC.out.below hbr).at k hlt
      have hl1 : (k : Int) < (m : Int) := by omega
      have hne1 : b1 ≠ w.heap.size := by
        obtain ⟨_, _, e, h⟩ := HA.out (by omega)
        cases e
        have := World.block_lt_of_cell? _ _ (h k hlt)
        simp at this; omega
      have hne2 : b2 ≠ w.heap.size := by
        obtain ⟨_, _, e, h⟩ := HC.out (by omega)
        cases e
        have := World.block_lt_of_cell? _ _ (h k hlt)
        simp at this; omega
      obtain ⟨x0, hv0⟩ : ∃ x, wr.cell? ⟨w.heap.size, k * 2, none⟩ = some x := by rw [cell_of_row wr _ _ cs 33 (0, 0) hg]; exact ⟨_, Array.getElem?_eq_getElem (by omega)⟩
      obtain ⟨x1, hv1⟩ : ∃ x, wr.cell? ⟨w.heap.size, k * 2 + 1, none⟩ = some x := by rw [cell_of_row wr _ _ cs 33 (0, 0) hg]; exact ⟨_, Array.getElem?_eq_getElem (by omega)⟩
      have hf0 := frozen_of_row wr w.heap.size (k * 2) cs 33 hg
      have hf1 := frozen_of_row wr w.heap.size (k * 2 + 1) cs 33 hg
      clear hg
      go_wp2_with fail
      go_region
      all_goals
        go_wp2
        have hg2 := heap_setCell_same _ _ (k * 2 + 1) _ 33 (Value.int .u64 (C k)) (heap_setCell_same wr w.heap.size (k * 2) cs 33 (.string (S k)) HG.out)
        go_roundw
        case rel =>
          refine ⟨k + 1, _, by go_num, by omega, ?_, hg2, fun i hi => ?_, ((hbr.setCell (Nat.le_refl _) _).setCell (Nat.le_refl _) _).drew⟩
          · simp [hcs]
          · by_cases e : i = k
            · subst e
              refine ⟨?_, ?_⟩
              · rw [Array.getElem?_setIfInBounds_ne (by omega), Array.getElem?_setIfInBounds_self_of_lt (by omega)]
              · rw [Array.getElem?_setIfInBounds_self_of_lt (by simp; omega)]
            · rw [Array.getElem?_setIfInBounds_ne (by omega), Array.getElem?_setIfInBounds_ne (by omega), Array.getElem?_setIfInBounds_ne (by omega), Array.getElem?_setIfInBounds_ne (by omega)]
              exact HD.out i (by omega)
        case measure => simp [intOf]; omega
    · obtain rfl : k = m := by omega
      clear hg
      have hfr : Fr B w wr := Fr.of_below hbr hb
      have hbs := hbr.size
      go_wp2_with fail
      refine (text_any B n k w.heap.size v xs S C _ (own_below HO.out hbr) (by omega) ⟨cs, HG.out, hcs, HD.out⟩ HS.out hm hn (HT.out.on hfr.1)).mono ?_
      rintro e w2 ⟨v2, rfl, hown2, hf2⟩
      go_wp2
      go_ret
      exact ⟨v2, rfl, hown2, hfr.trans hf2⟩
end Go.Proofs.Qxb6619220aDoor
