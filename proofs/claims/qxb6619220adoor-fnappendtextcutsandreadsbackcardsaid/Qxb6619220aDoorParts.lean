/-
  The walks of 'zzBytes_FnAppendTextCutsAndReadsBack' (4) and 'cloneBytes' (5); small laws for the law's own walk.
-/
import Derived.Test.Qxb6619220aDoorBack
import Derived.Laws.CopyOwn
import Derived.Deep.DeepCutAuto
import Derived.Deep.RegionWith
namespace Go.Proofs.Qxb6619220aDoor
open Go.RowKit Pl
open Go.Lib (byteCells)

theorem Tryd.info9 : (Tryd.prog.info? 9).map (fun i => (i.zero, i.size, i.bytes)) = some (some (.string ⟨#[]⟩), 1, 16) := by kernel_rfl
theorem Tryd.info31 : (Tryd.prog.info? 31).map (fun i => (i.zero, i.size, i.bytes)) = some (some (.int .u64 0), 1, 8) := by kernel_rfl

/-- What the bound's bool tells. -/
def Zz (n : Nat) (S : Nat → ByteArray) (w : World) (e : Ending) (w' : World) : Prop :=
  ∃ t, e = .returned (.bool t) ∧ (t = true → ∀ i, i < n → (S i).size ≤ 1048576) ∧ w' = w

theorem Zz.no {n : Nat} {S : Nat → ByteArray} {w : World} : Zz n S w (.returned (.bool false)) w := ⟨false, rfl, (fun h => by cases h), rfl⟩
theorem Zz.yes {n : Nat} {S : Nat → ByteArray} {w : World} (h2 : ∀ i, i < n → (S i).size ≤ 1048576) : Zz n S w (.returned (.bool true)) w := ⟨true, rfl, fun _ => h2, rfl⟩

set_option maxRecDepth 100000 in
set_option maxHeartbeats 1000000 in
theorem zz4_any (a a2 a3 : Option Addr) (n c n2 c2 m c3 : Nat) (S : Nat → ByteArray) (kk : Int) (w : World) (hn : n ≤ 9223372036854775807) (hn2 : n2 ≤ 9223372036854775807) (hm : m ≤ 9223372036854775807)
    (hA : Strs w a n S) (hsz : ∀ i, i < n → (S i).size ≤ 9223372036854775807) :
    Calls Tryd.prog 4 #[.slice a n c, .slice a2 n2 c2, .slice a3 m c3, .int .i64 kk] w (Zz n S w) := by
  have HC := hide_of hA
  have HS := hide_of hsz
  clear hA hsz
  by_cases hn1 : n ≤ 1048576
  · go_enter Tryd.func4, Tryd.ntmps4
    go_wp2
    go_loop [9, 10] (fun z i => ∃ k T : Nat, i = .int .i64 k ∧ z = .int .i64 T ∧ k ≤ n ∧ T ≤ 1048576 ∧ (∀ i, i < k → (S i).size ≤ 1048576)) (fun _ i => n - (intOf i).toNat)
    case atStart => exact ⟨0, n, rfl, by go_num, Nat.zero_le _, hn1, fun i hi => by omega⟩
    case round =>
      obtain ⟨k, T, rfl, rfl, hk, hT, hall⟩ := hrel
      have HA := hide_of hall
      clear hall
      by_cases hlt : k < n
      · obtain ⟨b, off, rfl, hc1⟩ := HC.out.at k hlt
        have hs1 := HS.out k hlt
        go_wp2
        · go_ret
          exact Zz.no
        · go_ret
          exact Zz.no
        · go_round
          case rel => exact ⟨k + 1, T + (S k).size, by go_num, by go_num, by omega, by omega, fun i hi => by
            by_cases e : i = k
            · rw [e]; omega
            · exact HA.out i (by omega)⟩
          case measure => simp [intOf]; omega
      · obtain rfl : k = n := by omega
        go_wp2
        all_goals go_ret
        all_goals first | exact Zz.no | exact Zz.yes HA.out
  · go_enter Tryd.func4, Tryd.ntmps4
    go_wp2
    go_ret
    exact Zz.no

/-! ### rows that are copied -/
def SL (S : Nat → ByteArray) (n : Nat) : List Value := (List.range n).map fun i => Value.string (S i)
theorem SL_len (S : Nat → ByteArray) (n : Nat) : (SL S n).length = n := by simp [SL]
theorem SL_at (S : Nat → ByteArray) (n i : Nat) (h : i < n) : (SL S n)[i]? = some (.string (S i)) := by simp [SL, h]
theorem SL_one (S : Nat → ByteArray) (n : Nat) : ∀ v ∈ SL S n, v.oneCell' = true := by
  intro v hv
  obtain ⟨_, _, rfl⟩ := List.mem_map.1 hv
  rfl
def NL (C : Nat → Nat) (n : Nat) : List Value := (List.range n).map fun i => Value.int .u64 (C i)
theorem NL_len (C : Nat → Nat) (n : Nat) : (NL C n).length = n := by simp [NL]
theorem NL_at (C : Nat → Nat) (n i : Nat) (h : i < n) : (NL C n)[i]? = some (.int .u64 (C i)) := by simp [NL, h]
theorem NL_one (C : Nat → Nat) (n : Nat) : ∀ v ∈ NL C n, v.oneCell' = true := by
  intro v hv
  obtain ⟨_, _, rfl⟩ := List.mem_map.1 hv
  rfl

theorem SL_src {w w1 : World} {a : Option Addr} {n : Nat} {S : Nat → ByteArray} (h : Strs w a n S) (hb : Below w.heap.size w w1) :
    0 < (SL S n).length → ∃ ad, a = some ad ∧ ∀ j v, (SL S n)[j]? = some v → w1.cell? (ad.add j) = some v := by
  intro h0
  rw [SL_len] at h0
  obtain ⟨b, off, rfl, hc⟩ := h h0
  refine ⟨_, rfl, fun j v hv => ?_⟩
  have hj : j < n := by
    have := (List.getElem?_eq_some_iff.1 hv).1
    simpa [SL_len] using this
  have h := hc j hj
  rw [Addr.add_lit, hb.cell (World.block_lt_of_cell? _ _ h), h]
  rw [SL_at S n j hj] at hv
  exact hv
theorem NL_src {w w1 : World} {a : Option Addr} {n : Nat} {C : Nat → Nat} (h : Nums w a n C) (hb : Below w.heap.size w w1) :
    0 < (NL C n).length → ∃ ad, a = some ad ∧ ∀ j v, (NL C n)[j]? = some v → w1.cell? (ad.add j) = some v := by
  intro h0
  rw [NL_len] at h0
  obtain ⟨b, off, rfl, hc⟩ := h h0
  refine ⟨_, rfl, fun j v hv => ?_⟩
  have hj : j < n := by
    have := (List.getElem?_eq_some_iff.1 hv).1
    simpa [NL_len] using this
  have h := hc j hj
  rw [Addr.add_lit, hb.cell (World.block_lt_of_cell? _ _ h), h]
  rw [NL_at C n j hj] at hv
  exact hv
theorem SL_strs {w : World} {g n : Nat} {S : Nat → ByteArray} (h : w.heap[g]? = some (.cells (SL S n).toArray 9 (0, 0))) : Strs w (some ⟨g, 0, none⟩) n S := by
  refine fun _ => ⟨g, 0, rfl, fun j hj => ?_⟩
  rw [Nat.zero_add, cell_of_row w g j _ 9 (0, 0) h]
  simpa using SL_at S n j hj
theorem NL_nums {w : World} {g n : Nat} {C : Nat → Nat} (h : w.heap[g]? = some (.cells (NL C n).toArray 31 (0, 0))) : Nums w (some ⟨g, 0, none⟩) n C := by
  refine fun _ => ⟨g, 0, rfl, fun j hj => ?_⟩
  rw [Nat.zero_add, cell_of_row w g j _ 31 (0, 0) h]
  simpa using NL_at C n j hj
theorem block_of_full {w : World} {base : Nat} {e : TypeId} {g n : Nat} {xs : List Value} (h : w.ownsRow base e 1 (.slice (some ⟨g, 0, none⟩) n n) n xs) : w.heap[g]? = some (.cells xs.toArray e (0, 0)) := by
  rcases h.2 with ⟨h', _⟩ | ⟨g', cap', cur, h', _, hg, _, _, hcs, htake⟩
  · simp at h'
  · simp only [Value.slice.injEq, Option.some.injEq, Addr.mk.injEq, and_true, true_and] at h'
    obtain ⟨rfl, rfl⟩ := h'
    rw [hg, ← htake, List.take_of_length_le (by simp; omega)]
theorem full_of_block {w : World} {base : Nat} {e : TypeId} {g n : Nat} {xs : List Value} (h : w.heap[g]? = some (.cells xs.toArray e (0, 0))) (hn : xs.length = n) (hb : base ≤ g) (hm : n ≤ maxLen) :
    w.ownsRow base e 1 (.slice (some ⟨g, 0, none⟩) n n) n xs :=
  ⟨by omega, .inr ⟨g, n, xs.toArray, rfl, hb, h, Nat.le_refl _, hm, by simp [hn], by simp [List.take_of_length_le, hn]⟩⟩
theorem splice_all {α : Type} (Z cs : List α) (h : cs.length = Z.length) : splice Z 0 cs = cs := by
  simp [splice, h]
theorem cells_madeS (n : Nat) : (madeCells (Value.string ⟨#[]⟩).cells (n * 1)).toList.length = n := by simp [Value.cells, toList_madeCells_one]
theorem cells_madeN (k : IntKind) (n : Nat) : (madeCells (Value.int k 0).cells (n * 1)).toList.length = n := by simp [Value.cells, toList_madeCells_one]

/-- Bytes that came in. -/
def Ins (w : World) (a : Option Addr) (zs : List Int) : Prop := 0 < zs.length → ∃ ad, a = some ad ∧ ∀ j v, (zs.map (Value.int .u8))[j]? = some v → w.cell? (ad.add j) = some v
theorem Ins.below {w w1 : World} {a : Option Addr} {zs : List Int} (h : Ins w a zs) (hb : Below w.heap.size w w1) : Ins w1 a zs := by
  intro h0
  obtain ⟨ad, e, h⟩ := h h0
  exact ⟨ad, e, fun j v hv => by
    have h1 := h j v hv
    rw [hb.cell (World.block_lt_of_cell? _ _ h1)]; exact h1⟩

/-- What 'cloneBytes' brings. -/
def Clone (zs : List Int) (w : World) (e : Ending) (w' : World) : Prop :=
  ∃ v', e = .returned v' ∧ w'.ownsRow w.heap.size 5 1 v' zs.length (zs.map (Value.int .u8)) ∧ Below w.heap.size w w'

set_option maxHeartbeats 1000000 in
theorem clone_any (a : Option Addr) (c : Nat) (zs : List Int) (w : World) (hI : Ins w a zs) (hnil : a = none → zs.length = 0 ∧ c = 0) (hlen : zs.length ≤ 1048576) :
    Calls Tryd.prog 5 #[.slice a zs.length c] w (Clone zs w) := by
  obtain ⟨i0, hi, hz0, hz1, hz2⟩ := info_parts Tryd.info5
  have hsz1 : (Tryd.prog.info? 5).map (·.size) = some 1 := by rw [hi]; simp [hz1]
  have hq : ∀ (w : World) (a : Option Addr) (n c : Nat), (binOp .eql 24 (.slice a n c) (.slice none 0 0)).run Tryd.prog w = .ok (.bool a.isNone) w := fun w a n c => Go.Lib.run_eql_slice_nil w 24 5 a n c 0 0 Tryd.underlying24
  have HI := hide_of hI
  clear hI
  cases a with
  | none =>
    obtain ⟨h0, rfl⟩ := hnil rfl
    obtain rfl : zs = [] := List.eq_nil_of_length_eq_zero h0
    go_enter Tryd.func5, Tryd.ntmps5
    go_wp2
    go_ret
    exact ⟨_, rfl, World.ownsRow_nil _ _ _ _, Below.refl _ _⟩
  | some x =>
    clear hnil
    go_enter Tryd.func5, Tryd.ntmps5
    go_wp2_with (first
      | (at_make; refine wpList_make_full _ rfl (.tmp 7) (.tmp 7) 24 rfl w.heap.size 5 i0 (.int .u8 0) 1 Tryd.underlying24 hi hz0 hz1 .i64 .i64 _ _ zs.length rfl rfl rfl rfl (by rw [hz2]; omega) (by unfold maxLen; omega) (Nat.le_refl _) ?_; intro w1 hown1 hgrow1; have hb1 : Below w.heap.size w w1 := (Below.refl _ _).grown hgrow1 (Nat.le_refl _) (fun k hk => by cases hk); have hg1 := block_of_full hown1; clear hown1 hgrow1)
      | (refine wpList_copy_splice (by rfl) (.tmp 9) (.tmp 10) 24 24 (by rfl) 5 Tryd.underlying24 hsz1 (some ⟨w.heap.size, 0, none⟩) (some x) zs.length zs.length zs.length c (by rfl) (by rfl) w.heap.size 0 _ 5 hg1 (zs.map (Value.int .u8)) (by simp) (fun h => ⟨rfl, (HI.out.below hb1) (by simpa using h)⟩) (by rw [cells_madeN]; simp) (ints_oneCell _ _) w.heap.size w hb1 (Nat.le_refl _) ?_; intro w2 HG2 hB2))
    go_ret
    have hg2 : w2.heap[w.heap.size]? = some (.cells (zs.map (Value.int .u8)).toArray 5 (0, 0)) := by
      have := HG2.out
      rw [splice_all _ _ (by rw [cells_madeN]; simp)] at this
      exact this
    exact ⟨_, rfl, full_of_block hg2 (by simp) (Nat.le_refl _) (by unfold maxLen; omega), hB2⟩

/-! ### reslices -/
/-- The slice that the law's own copy left: nil, or a row of its own, full. -/
def Form (a : Option Addr) (n c : Nat) : Prop := (a = none ∧ n = 0 ∧ c = 0) ∨ ∃ g, a = some ⟨g, 0, none⟩ ∧ c = n

theorem size_one {e : TypeId} (hs : (Tryd.prog.info? e).map (·.size) = some 1) (w : World) : (sizeOf e).run Tryd.prog w = .ok 1 w := by
  cases hi : Tryd.prog.info? e with
  | none => rw [hi] at hs; cases hs
  | some i => rw [hi] at hs; simp at hs; simp [sizeOf, run_typeInfo w hi, hs]

theorem slice_hi {t e : TypeId} {a : Option Addr} {n c k : Nat} (hu : Tryd.prog.underlying t = some (.slice e)) (he : Tryd.prog.elem t = e) (hs : (Tryd.prog.info? e).map (·.size) = some 1) (hf : Form a n c) (hk : k ≤ n) (w : World) :
    (Instr.slice t (.slice a n c) none (some (.int .i64 (k : Int))) none).run Tryd.prog w = .ok (.slice a k c) w := by
  have hkc : k ≤ c := by rcases hf with ⟨_, h1, h2⟩ | ⟨g, _, rfl⟩ <;> omega
  rw [run_slice_h w t a n c (by rw [he]; exact hu) .i64 k (by omega) (by omega), he, size_one hs]
  rcases hf with ⟨rfl, h1, rfl⟩ | ⟨g, rfl, rfl⟩
  · simp [Result.andThen, sliced]
  · simp [Result.andThen, sliced, Addr.add]

theorem slice_lo {t e : TypeId} {a : Option Addr} {n c k : Nat} (hu : Tryd.prog.underlying t = some (.slice e)) (he : Tryd.prog.elem t = e) (hs : (Tryd.prog.info? e).map (·.size) = some 1) (hk : k ≤ n) (w : World) :
    (Instr.slice t (.slice a n c) (some (.int .i64 (k : Int))) none none).run Tryd.prog w = .ok (.slice (if c = k then a else a.map (·.add k)) (n - k) (c - k)) w := by
  rw [run_slice_l w t a n c (by rw [he]; exact hu) .i64 k (by omega) (by omega), he, size_one hs]
  simp [Result.andThen, sliced]

theorem Strs.hi {w : World} {a : Option Addr} {n k : Nat} {S : Nat → ByteArray} (h : Strs w a n S) (hk : k ≤ n) : Strs w a k S := by
  intro h0
  obtain ⟨b, off, e, h⟩ := h (by omega)
  exact ⟨b, off, e, fun i hi => h i (by omega)⟩
theorem Nums.hi {w : World} {a : Option Addr} {n k : Nat} {C : Nat → Nat} (h : Nums w a n C) (hk : k ≤ n) : Nums w a k C := by
  intro h0
  obtain ⟨b, off, e, h⟩ := h (by omega)
  exact ⟨b, off, e, fun i hi => h i (by omega)⟩
theorem Strs.lo {w : World} {a : Option Addr} {n c k : Nat} {S : Nat → ByteArray} (h : Strs w a n S) (hf : Form a n c) (hk : k ≤ n) : Strs w (if c = k then a else a.map (·.add k)) (n - k) (fun i => S (k + i)) := by
  intro h0
  obtain ⟨b, off, rfl, hx⟩ := h (by omega)
  have hc : ¬ c = k := by rcases hf with ⟨h1, _⟩ | ⟨g, _, rfl⟩ <;> first | cases h1 | omega
  rw [if_neg hc]
  exact ⟨b, off + k, by simp [Addr.add], fun i hi => by rw [Nat.add_assoc]; exact hx (k + i) (by omega)⟩
theorem Nums.lo {w : World} {a : Option Addr} {n c k : Nat} {C : Nat → Nat} (h : Nums w a n C) (hf : Form a n c) (hk : k ≤ n) : Nums w (if c = k then a else a.map (·.add k)) (n - k) (fun i => C (k + i)) := by
  intro h0
  obtain ⟨b, off, rfl, hx⟩ := h (by omega)
  have hc : ¬ c = k := by rcases hf with ⟨h1, _⟩ | ⟨g, _, rfl⟩ <;> first | cases h1 | omega
  rw [if_neg hc]
  exact ⟨b, off + k, by simp [Addr.add], fun i hi => by rw [Nat.add_assoc]; exact hx (k + i) (by omega)⟩

/-! ### what is owned, read -/
theorem owned_byts {w : World} {B n : Nat} {v : Value} {xs : List Value} {T : List UInt8} (h : w.ownsRow B 5 1 v (n + T.length) (xs ++ byteCells T)) (hx : xs.length = n) (h0 : 0 < T.length) :
    ∃ g cap, v = .slice (some ⟨g, 0, none⟩) (n + T.length) cap ∧ n + T.length ≤ cap ∧ Byts w g n T ∧ ∀ i, i < n → w.cell? ⟨g, i, none⟩ = xs[i]? := by
  obtain ⟨g, cap, rfl, hc⟩ : ∃ g cap, v = .slice (some ⟨g, 0, none⟩) (n + T.length) cap ∧ n + T.length ≤ cap := by
    rcases h.2 with ⟨_, h0⟩ | ⟨g, cap, cur, hv, hb, hg, hle, _⟩
    · omega
    · exact ⟨g, cap, hv, hle⟩
  refine ⟨g, cap, rfl, hc, fun i hi => ?_, fun i hi => ?_⟩
  · rw [h.cellAt _ (by omega), List.getElem?_append_right (by omega), hx, Nat.add_sub_cancel_left]
    simp [byteCells, List.getD, hi]
  · rw [h.cellAt _ (by omega), List.getElem?_append_left (by omega)]

theorem tab_mono {B B' : Nat} {w : World} (h : Lib.TabBelow Tryd.prog B w powName .u64 Lib.pow10Tab) (hb : B ≤ B') : Lib.TabBelow Tryd.prog B' w powName .u64 Lib.pow10Tab := fun w' h' => h w' (h'.mono hb)

end Go.Proofs.Qxb6619220aDoor
