/-
  'FnIsNumberPointAnywhere' (4): the plain law and the walk.
-/
import Derived.Test.Qxb6619267aNum
import Derived.Laws.AppendOwnNone
namespace Go.Proofs.Qxb6619267a
open Go.RowKit

namespace Pl
def headSgn : List Int → Bool
  | [] => false
  | x :: _ => sgn x

theorem sgn_dp {x : Int} (h : sgn x = true) : dp x = false := by
  simp only [sgn, Bool.or_eq_true, beq_iff_eq] at h
  rcases h with rfl | rfl <;> rfl

theorem ok_point (l : List Int) (k : Nat) (hk : k ≤ l.length) : okAll (l.take k ++ 46 :: l.drop k) = (!(decide (k = 0) && headSgn l) && okAll l) := by
  cases l with
  | nil =>
    obtain rfl : k = 0 := by simpa using hk
    rfl
  | cons x r =>
    cases k with
    | zero =>
      have h46 : dp 46 = true := rfl
      cases hs : sgn x with
      | true => simp [okAll, headSgn, hs, sgn_dp hs]
      | false => simp [okAll, headSgn, hs, h46]
    | succ k =>
      have h46 : dp 46 = true := rfl
      have e : r.all dp = ((r.take k).all dp && (r.drop k).all dp) := by rw [← List.all_append, List.take_append_drop]
      simp only [List.take_succ_cons, List.drop_succ_cons, List.cons_append, okAll, List.all_append, List.all_cons, h46, e, Bool.true_and]
      simp

theorem point_law (l : List Int) (k : Nat) (hk : k ≤ l.length) : isNum (l.take k ++ 46 :: l.drop k) = (!l.any pt && (!(decide (k = 0) && headSgn l) && isNum l)) := by
  have hc1 : (l.take k ++ 46 :: l.drop k).countP dig = l.countP dig := by
    have h46 : dig 46 = false := rfl
    rw [List.countP_append, List.countP_cons, h46]
    simp only [Bool.false_eq_true, if_false, Nat.add_zero]
    rw [← List.countP_append, List.take_append_drop]
  have hc2 : (l.take k ++ 46 :: l.drop k).countP pt = l.countP pt + 1 := by
    have h46 : pt 46 = true := rfl
    rw [List.countP_append, List.countP_cons, h46]
    simp only [if_true]
    rw [← Nat.add_assoc, ← List.countP_append, List.take_append_drop]
  unfold isNum
  rw [hc1, hc2, ok_point l k hk]
  cases ha : l.any pt with
  | true =>
    obtain ⟨y, hy, hp⟩ := List.any_eq_true.1 ha
    have h0 : 0 < l.countP pt := List.countP_pos_iff.2 ⟨y, hy, hp⟩
    have : decide (l.countP pt + 1 ≤ 1) = false := decide_eq_false (by omega)
    simp only [this]
    simp
  | false =>
    have h0 : l.countP pt = 0 := by
      rw [List.countP_eq_zero]
      intro y hy hp
      have := List.any_eq_false.1 ha y hy
      exact this hp
    rw [h0]
    simp [Bool.and_assoc]

theorem dig_isNum (l : List Int) (h0 : 0 < l.length) (h : l.all dig = true) : isNum l = true := by
  have hd : ∀ y ∈ l, dig y = true := List.all_eq_true.1 h
  have hp : l.countP pt = 0 := by
    rw [List.countP_eq_zero]
    intro y hy hp
    have h1 := hd y hy
    simp only [pt, beq_iff_eq] at hp
    subst hp
    cases h1
  have hc : l.countP dig = l.length := List.countP_eq_length.2 hd
  have ho : okAll l = true := okAll_yes l fun i hi => .inl (by
    have : l.getD i 0 ∈ l := by rw [List.getD_eq_getElem?_getD, List.getElem?_eq_getElem hi]; exact List.getElem_mem _
    rw [dp, hd _ this]; rfl)
  simp [isNum, ho, hc, hp, h0]

theorem sgn_isNum (l : List Int) (h1 : 1 < l.length) (hs : headSgn l = true) (h : (l.drop 1).all dig = true) : isNum l = true := by
  cases l with
  | nil => simp at h1
  | cons x r =>
    have hr : r.all dig = true := h
    have h2 : isNum r = true := dig_isNum r (by simp at h1; omega) hr
    have hs' : sgn x = true := hs
    have hd : dig x = false := by have := sgn_dp hs'; simp [dp] at this; exact this.1
    have hp : pt x = false := by have := sgn_dp hs'; simp [dp] at this; exact this.2
    have hall : r.all dp = true := List.all_eq_true.2 fun y hy => by simp [dp, List.all_eq_true.1 hr y hy]
    simp only [isNum, Bool.and_eq_true, decide_eq_true_eq] at h2 ⊢
    refine ⟨by simp [okAll, hs', hall], ?_, ?_⟩
    · rw [List.countP_cons, hd]; simpa using h2.2.1
    · rw [List.countP_cons, hp]; simpa using h2.2.2

theorem any_take (l : List Int) (j : Nat) (h : j < l.length) : (l.take (j + 1)).any pt = ((l.take j).any pt || pt (l.getD j 0)) := by
  rw [List.take_succ_eq_append_getElem h, List.any_append, List.getD_eq_getElem?_getD, List.getElem?_eq_getElem h]
  simp
end Pl
open Pl

abbrev U (l : List Int) : List Value := l.map (Value.int .u8)
theorem U_one (l : List Int) : ∀ u ∈ U l, u.oneCell' = true := ints_oneCell _ _
theorem U_at (l : List Int) (i : Nat) (h : i < l.length) : (U l)[i]? = some (.int .u8 (l.getD i 0)) := by simp [List.getD, h]
theorem news_new {W : World} {B : Nat} {cs : List Value} {t : TypeId} (h : W.heap.size = B) : ∀ j u, cs[j]? = some u → (W.alloc (.cells cs.toArray t)).cell? ((⟨B, 0, none⟩ : Addr).add j) = some u := by
  subst h
  have := World.news_of_block (heap_alloc_new W (.cells cs.toArray t))
  simpa using this

theorem U_src {w w1 : World} {a : Option Addr} {l : List Int} (h : Lst w a l) (hb : Below w.heap.size w w1) :
    0 < (U l).length → ∃ ad, a = some ad ∧ ∀ j v, (U l)[j]? = some v → w1.cell? (ad.add j) = some v := by
  intro h0
  obtain ⟨b, off, rfl, hc⟩ := h (by simpa using h0)
  refine ⟨_, rfl, fun j v hv => ?_⟩
  have hj : j < l.length := by
    have := (List.getElem?_eq_some_iff.1 hv).1
    simpa using this
  have h := hc j hj
  rw [Addr.add_lit, hb.cell (World.block_lt_of_cell? _ _ h), h]
  rw [U_at l j hj] at hv
  exact hv

theorem U_lst {w : World} {g : Nat} {l : List Int} (h : w.heap[g]? = some (.cells (U l).toArray 5 (0, 0))) : Lst w (some ⟨g, 0, none⟩) l := by
  refine fun _ => ⟨g, 0, rfl, fun j hj => ?_⟩
  rw [Nat.zero_add, cell_of_row w g j _ 5 (0, 0) h]
  simpa using U_at l j hj

theorem Lst.below {w w1 : World} {a : Option Addr} {l : List Int} (h : Lst w a l) (hb : Below w.heap.size w w1) : Lst w1 a l := Ints.below h hb

/-- The cells of a part of a row. -/
theorem part_hi {w : World} {g : Nat} {l : List Int} (h : Lst w (some ⟨g, 0, none⟩) l) (k : Nat) : ∀ j u, (U (l.take k))[j]? = some u → w.cell? ((⟨g, 0, none⟩ : Addr).add j) = some u := by
  intro j u hu
  have hj : j < (l.take k).length := by
    have := (List.getElem?_eq_some_iff.1 hu).1
    simpa using this
  have hj2 : j < k ∧ j < l.length := by simp at hj; omega
  obtain ⟨b, off, e, hc⟩ := h (by omega)
  cases e
  have h1 := hc j hj2.2
  rw [Addr.add_lit, h1, ← hu, U_at _ _ hj]
  simp [List.getD, List.getElem?_take_of_lt hj2.1]
theorem part_lo {w : World} {g : Nat} {l : List Int} (h : Lst w (some ⟨g, 0, none⟩) l) (k : Nat) (hk : k ≤ l.length) :
    ∃ ad, (if l.length = k then (some ⟨g, 0, none⟩ : Option Addr) else (some ⟨g, 0, none⟩ : Option Addr).map (·.add k)) = some ad ∧ ∀ w1, Below w.heap.size w w1 → ∀ j u, (U (l.drop k))[j]? = some u → w1.cell? (ad.add j) = some u := by
  by_cases e : l.length = k
  · rw [if_pos e]
    refine ⟨_, rfl, fun w1 hb j u hu => ?_⟩
    have : (l.drop k).length = 0 := by simp; omega
    have := (List.getElem?_eq_some_iff.1 hu).1
    simp at this; omega
  · rw [if_neg e]
    refine ⟨⟨g, k, none⟩, by simp [Addr.add]; omega, fun w1 hb j u hu => ?_⟩
    have hj : j < (l.drop k).length := by
      have := (List.getElem?_eq_some_iff.1 hu).1
      simpa using this
    have hj2 : k + j < l.length := by simp at hj; omega
    obtain ⟨b, off, e, hc⟩ := h (by omega)
    cases e
    have h1 := hc (k + j) hj2
    rw [Nat.zero_add] at h1
    rw [Addr.add_lit, hb.cell (World.block_lt_of_cell? _ _ h1), h1, ← hu, U_at _ _ hj]
    simp [List.getD]

/-- A row that is owned, as a slice of its bytes. -/
theorem own_lst {w : World} {B : Nat} {v : Value} {l : List Int} (h : w.ownsRow B 5 1 v l.length (U l)) (h0 : 0 < l.length) : ∃ g c, v = .slice (some ⟨g, 0, none⟩) l.length c ∧ Lst w (some ⟨g, 0, none⟩) l := by
  obtain ⟨g, c, rfl, _, _⟩ := h.form h0
  refine ⟨g, c, rfl, fun _ => ⟨g, 0, rfl, fun i hi => ?_⟩⟩
  rw [Nat.zero_add, h.cellAt i (by omega), U_at l i hi]
end Go.Proofs.Qxb6619267a
