/-
  The walk of the law (function 3), a slice, n at most 0.
-/
import Derived.Test.Qxb6618463aLawParts
namespace Go.Proofs.Qxb6618463a
open Go.RowKit Pl

set_option maxRecDepth 100000 in
set_option maxHeartbeats 4000000 in
theorem law_some_neg (x : Addr) (len cap : Nat) (zs : List Int) (offset n : Int) (w : World) (hlen : len ≤ 1048576) (hlc : len ≤ cap) (hz : zs.length = cap)
    (hcell : ∀ i, i < zs.length → w.cell? (x.add i) = some (.int .u8 (zs.getD i 0))) (hp : n ≤ 0) (hn0 : -9223372036854775808 ≤ n) (ho0 : -9223372036854775808 ≤ offset) (ho1 : offset ≤ 9223372036854775807) :
    Calls Try.prog 3 #[.slice (some x) len cap, .int .i64 offset, .int .i64 n] w fun e w' => e = .returned (.bool true) ∧ Below w.heap.size w w' := by
  obtain ⟨i0, hi, hz0, hz1, hz2⟩ := info_parts Try.info5
  have hsz1 : (Try.prog.info? 5).map (·.size) = some 1 := by rw [hi]; simp [hz1]
  have hnil : ∀ (w : World) (a : Option Addr) (n c : Nat), (binOp .neq 22 (.slice a n c) (.slice none 0 0)).run Try.prog w = .ok (.bool (!a.isNone)) w := fun w a n c => run_neq_slice_nil_any w 22 5 a n c 0 0 Try.underlying22
  have hc : ¬ 68719476736 < n := by omega
  have HC : Hid (∀ i, i < zs.length → w.cell? (x.add i) = some (.int .u8 (zs.getD i 0))) := hcell
  clear hcell
  have hxl : (zs.take len).length = len := by simp; omega
  go_enter Try.func3, Try.ntmps3
  go_wp2_with (first
    | (at_make; refine wpList_make_full _ rfl (.tmp 40) (.tmp 40) 22 rfl w.heap.size 5 i0 (.int .u8 0) 1 Try.underlying22 hi hz0 hz1 .i64 .i64 _ _ len rfl rfl rfl rfl (by rw [hz2]; omega) (by unfold maxLen; omega) (Nat.le_refl _) ?_; intro w1 hown1 hgrow1; have hb1 : Below w.heap.size w w1 := (Below.refl _ _).grown hgrow1 (Nat.le_refl _) (fun k hk => by cases hk); have hg1 := block_of_full hown1; clear hown1 hgrow1)
    | (at_make; refine wpList_make_full _ rfl (.tmp 48) (.tmp 48) 22 rfl w2.heap.size 5 i0 (.int .u8 0) 1 Try.underlying22 hi hz0 hz1 .i64 .i64 _ _ len rfl rfl rfl rfl (by rw [hz2]; omega) (by unfold maxLen; omega) (Nat.le_refl _) ?_; intro w3 hown3 hgrow3; have hb3 : Below w2.heap.size w2 w3 := (Below.refl _ _).grown hgrow3 (Nat.le_refl _) (fun k hk => by cases hk); have hg3 := block_of_full hown3; clear hown3 hgrow3)
    | (refine wpList_copy_splice (by rfl) (.tmp 42) (.tmp 43) 22 22 (by rfl) 5 Try.underlying22 hsz1 (some ⟨w.heap.size, 0, none⟩) (some x) len len len cap (by rfl) (by rfl) w.heap.size 0 _ 5 hg1 (U (zs.take len)) (by simp; omega) (fun _ => ⟨rfl, x, rfl, src_cells HC.out (by omega) hb1⟩) (by rw [cells_made]; simp; omega) (one_bytes _) w.heap.size w hb1 (Nat.le_refl _) ?_; intro w2 HG2 hB2)
    | (refine wpList_copy_splice (by rfl) (.tmp 50) (.tmp 51) 22 22 (by rfl) 5 Try.underlying22 hsz1 (some ⟨w2.heap.size, 0, none⟩) (some x) len len len cap (by rfl) (by rfl) w2.heap.size 0 _ 5 hg3 (U (zs.take len)) (by simp; omega) (fun _ => ⟨rfl, x, rfl, src_cells HC.out (by omega) (hB2.trans (hb3.mono hB2.size))⟩) (by rw [cells_made]; simp; omega) (one_bytes _) w2.heap.size w2 hb3 (Nat.le_refl _) ?_; intro w4 HG4 hB4)
    | (go_at_call 4; go_in))
  have hg2 : w2.heap[w.heap.size]? = some (.cells (U (zs.take len)).toArray 5 (0, 0)) := by
    have := HG2.out
    rw [splice_all _ _ (by rw [cells_made]; simp; omega)] at this
    exact this
  clear HG2 hg1 hb1
  have hlt2 := block_lt hg2
  have HG2 : Hid (w2.heap[w.heap.size]? = some (.cells (U (zs.take len)).toArray 5 (0, 0))) := hg2
  clear hg2
  have hg4 : w4.heap[w2.heap.size]? = some (.cells (U (zs.take len)).toArray 5 (0, 0)) := by
    have := HG4.out
    rw [splice_all _ _ (by rw [cells_made]; simp; omega)] at this
    exact this
  clear HG4 hg3 hb3
  have hs4 := hB4.size
  have hown4 : w4.ownsRow w2.heap.size 5 1 (.slice (some ⟨w2.heap.size, 0, none⟩) len len) (zs.take len).length (U (zs.take len)) := by
    rw [hxl]
    exact full_of_block hg4 (by simp; omega) (Nat.le_refl _) (by unfold maxLen; omega)
  have HO4 : Hid (w4.ownsRow w2.heap.size 5 1 (.slice (some ⟨w2.heap.size, 0, none⟩) len len) (zs.take len).length (U (zs.take len))) := hown4
  clear hg4 hown4
  generalize hxs : zs.take len = xs at *
  clear hxs
  subst hxl
  go_wp2_with (first | (go_at_call 5; refine (zz_neg w2.heap.size _ xs offset n _ HO4.out hs4 hlen hp hn0 ho0 ho1).mono ?_; rintro e wx ⟨v', rfl, hout, hbel4⟩; obtain ⟨a', c', rfl⟩ := owns_form hout) | go_in)
  have hbx : Below w2.heap.size w2 wx := hB4.trans hbel4
  have hgx : wx.heap[w.heap.size]? = some (.cells (U xs).toArray 5 (0, 0)) := (hbx.block _ hlt2).trans HG2.out
  have hbel : Below w.heap.size w wx := hB2.trans (hbx.mono (by omega))
  clear hB4 hbel4 hs4 HO4
  have HX : Hid (wx.heap[w.heap.size]? = some (.cells (U xs).toArray 5 (0, 0))) := hgx
  clear hgx
  go_loopw [10] (fun i wr => ∃ k : Nat, k ≤ xs.length ∧ i = .int .i64 k ∧ Below wx.heap.size wx wr) (fun i _ => xs.length - (intOf i).toNat)
  case atStart => exact ⟨0, Nat.zero_le _, rfl, Below.refl _ _⟩
  case round =>
    obtain ⟨k, hk, rfl, hbr⟩ := hrel
    by_cases hlt : k < xs.length
    · obtain ⟨g, rfl, hoc⟩ := out_pre (ys := []) (by simpa using hout) k hlt
      have hc1 : wr.cell? ⟨g, k, none⟩ = some (.int .u8 (xs.getD k 0)) := by rw [hbr.cell (World.block_lt_of_cell? _ _ hoc)]; exact hoc
      have hc2 : wr.cell? ⟨w.heap.size, k, none⟩ = some (.int .u8 (xs.getD k 0)) := by
        have h := cell_blk HX.out k hlt
        rw [hbr.cell (World.block_lt_of_cell? _ _ h)]; exact h
      have hl1 : (k : Int) < (xs.length : Int) := by omega
      clear hoc
      go_wp2_with fail
      go_quiet (fail)
      go_wp2
      go_roundw
      case rel => exact ⟨k + 1, by omega, by go_num, below_drewN hbr _⟩
      case measure => simp [intOf]; omega
    · obtain rfl : k = xs.length := by omega
      have hout2 := own_below hout hbr
      have hbel2 : Below w.heap.size w wr := hbel.trans (hbr.mono (by have := hbel.size; omega))
      clear hout hbel hbx HX hbr
      go_wp2
      refine wp_loop_rounds 1 ?_; rw [rounds_succ]
      go_wp2
      go_ret
      exact ⟨rfl, hbel2⟩

end Go.Proofs.Qxb6618463a
