/-
  What the three laws of this seat share: rows of bytes, the copy that a law makes of its argument, reslices.
-/
import Derived.Test.Qxb6619267aRows
import Derived.WalkKit
import Derived.WalkSpells
import Derived.WalkLawsBesides
import Derived.OwnWalk
import Derived.BigQuiet
import Derived.Deep.QuietTactic
import Derived.Deep.AppendLies
import Derived.Laws.CopyOwn
import Derived.Deep.DeepCutAuto
import Derived.Deep.RegionWith
namespace Go.Proofs.Qxb6619267a
open Go.RowKit

theorem hide_of {p : Prop} (h : p) : Hid p := h
theorem below_drewN {B : Nat} {w w' : World} (h : Below B w w') : ∀ n, Below B w (w'.drewN n)
  | 0 => h
  | n + 1 => (below_drewN h n).drew

theorem Try.info5 : (Try.prog.info? 5).map (fun i => (i.zero, i.size, i.bytes)) = some (some (.int .u8 0), 1, 1) := by kernel_rfl

/-- n bytes lie where a slice leads. -/
def Ints (w : World) (a : Option Addr) (n : Nat) (f : Nat → Int) : Prop := 0 < n → ∃ b off, a = some ⟨b, off, none⟩ ∧ ∀ i, i < n → w.cell? ⟨b, off + i, none⟩ = some (.int .u8 (f i))

theorem Ints.below {w w1 : World} {a : Option Addr} {n : Nat} {f : Nat → Int} (h : Ints w a n f) (hb : Below w.heap.size w w1) : Ints w1 a n f := by
  intro h0
  obtain ⟨b, off, e, h⟩ := h h0
  exact ⟨b, off, e, fun i hi => by rw [hb.cell (World.block_lt_of_cell? _ _ (h i hi))]; exact h i hi⟩
theorem Ints.at {w : World} {a : Option Addr} {n : Nat} {f : Nat → Int} (h : Ints w a n f) (k : Nat) (hk : k < n) : ∃ b off, a = some ⟨b, off, none⟩ ∧ w.cell? ⟨b, off + k, none⟩ = some (.int .u8 (f k)) := by
  obtain ⟨b, off, e, h⟩ := h (by omega)
  exact ⟨b, off, e, h k hk⟩

def IL (f : Nat → Int) (n : Nat) : List Value := (List.range n).map fun i => Value.int .u8 (f i)
theorem IL_len (f : Nat → Int) (n : Nat) : (IL f n).length = n := by simp [IL]
theorem IL_at (f : Nat → Int) (n i : Nat) (h : i < n) : (IL f n)[i]? = some (.int .u8 (f i)) := by simp [IL, h]
theorem IL_one (f : Nat → Int) (n : Nat) : ∀ v ∈ IL f n, v.oneCell' = true := by
  intro v hv
  obtain ⟨_, _, rfl⟩ := List.mem_map.1 hv
  rfl
theorem IL_src {w w1 : World} {a : Option Addr} {n : Nat} {f : Nat → Int} (h : Ints w a n f) (hb : Below w.heap.size w w1) :
    0 < (IL f n).length → ∃ ad, a = some ad ∧ ∀ j v, (IL f n)[j]? = some v → w1.cell? (ad.add j) = some v := by
  intro h0
  rw [IL_len] at h0
  obtain ⟨b, off, rfl, hc⟩ := h h0
  refine ⟨_, rfl, fun j v hv => ?_⟩
  have hj : j < n := by
    have := (List.getElem?_eq_some_iff.1 hv).1
    simpa [IL_len] using this
  have h := hc j hj
  rw [Addr.add_lit, hb.cell (World.block_lt_of_cell? _ _ h), h]
  rw [IL_at f n j hj] at hv
  exact hv
theorem IL_ints {w : World} {g n : Nat} {f : Nat → Int} (h : w.heap[g]? = some (.cells (IL f n).toArray 5 (0, 0))) : Ints w (some ⟨g, 0, none⟩) n f := by
  refine fun _ => ⟨g, 0, rfl, fun j hj => ?_⟩
  rw [Nat.zero_add, cell_of_row w g j _ 5 (0, 0) h]
  simpa using IL_at f n j hj
theorem block_of_full {w : World} {base : Nat} {e : TypeId} {g n : Nat} {xs : List Value} (h : w.ownsRow base e 1 (.slice (some ⟨g, 0, none⟩) n n) n xs) : w.heap[g]? = some (.cells xs.toArray e (0, 0)) := by
  rcases h.2 with ⟨h', _⟩ | ⟨g', cap', cur, h', _, hg, _, _, hcs, htake⟩
  · simp at h'
  · simp only [Value.slice.injEq, Option.some.injEq, Addr.mk.injEq, and_true, true_and] at h'
    obtain ⟨rfl, rfl⟩ := h'
    rw [hg, ← htake, List.take_of_length_le (by simp; omega)]
theorem splice_all {α : Type} (Z cs : List α) (h : cs.length = Z.length) : splice Z 0 cs = cs := by
  simp [splice, h]
theorem cells_made (k : IntKind) (n : Nat) : (madeCells (Value.int k 0).cells (n * 1)).toList.length = n := by simp [Value.cells, toList_madeCells_one]

/-- The slice that the law's own copy left: nil, or a row of its own, full. -/
def Form (a : Option Addr) (n c : Nat) : Prop := (a = none ∧ n = 0 ∧ c = 0) ∨ ∃ g, a = some ⟨g, 0, none⟩ ∧ c = n

theorem size_one (w : World) : (sizeOf 5).run Try.prog w = .ok 1 w := by
  obtain ⟨i, hi, _, hs, _⟩ := info_parts Try.info5
  simp [sizeOf, run_typeInfo w hi, hs]

theorem slice_hi {a : Option Addr} {n c k : Nat} (hf : Form a n c) (hk : k ≤ n) (w : World) :
    (Instr.slice 22 (.slice a n c) none (some (.int .i64 (k : Int))) none).run Try.prog w = .ok (.slice a k c) w := by
  have he : Try.prog.elem 22 = 5 := rfl
  have hkc : k ≤ c := by rcases hf with ⟨_, h1, h2⟩ | ⟨g, _, rfl⟩ <;> omega
  rw [run_slice_h w 22 a n c (by rw [he]; exact Try.underlying22) .i64 k (by omega) (by omega), he, size_one]
  rcases hf with ⟨rfl, h1, rfl⟩ | ⟨g, rfl, rfl⟩
  · simp [Result.andThen, sliced]
  · simp [Result.andThen, sliced, Addr.add]

theorem slice_lo {a : Option Addr} {n c k : Nat} (hk : k ≤ n) (w : World) :
    (Instr.slice 22 (.slice a n c) (some (.int .i64 (k : Int))) none none).run Try.prog w = .ok (.slice (if c = k then a else a.map (·.add k)) (n - k) (c - k)) w := by
  have he : Try.prog.elem 22 = 5 := rfl
  rw [run_slice_l w 22 a n c (by rw [he]; exact Try.underlying22) .i64 k (by omega) (by omega), he, size_one]
  simp [Result.andThen, sliced]

theorem Ints.hi {w : World} {a : Option Addr} {n k : Nat} {f : Nat → Int} (h : Ints w a n f) (hk : k ≤ n) : Ints w a k f := by
  intro h0
  obtain ⟨b, off, e, h⟩ := h (by omega)
  exact ⟨b, off, e, fun i hi => h i (by omega)⟩
theorem Ints.lo {w : World} {a : Option Addr} {n c k : Nat} {f : Nat → Int} (h : Ints w a n f) (hf : Form a n c) (hk : k ≤ n) : Ints w (if c = k then a else a.map (·.add k)) (n - k) (fun i => f (k + i)) := by
  intro h0
  obtain ⟨b, off, rfl, hx⟩ := h (by omega)
  have hc : ¬ c = k := by rcases hf with ⟨h1, _⟩ | ⟨g, _, rfl⟩ <;> first | cases h1 | omega
  rw [if_neg hc]
  exact ⟨b, off + k, by simp [Addr.add], fun i hi => by rw [Nat.add_assoc]; exact hx (k + i) (by omega)⟩
end Go.Proofs.Qxb6619267a
