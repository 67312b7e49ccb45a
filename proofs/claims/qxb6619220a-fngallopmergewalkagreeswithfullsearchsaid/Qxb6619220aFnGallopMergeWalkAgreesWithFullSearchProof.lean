/-
  The proof of 'Rows.FnGallopMergeWalkAgreesWithFullSearchSaid': the frame after the guide's own shell, at this function's types; the walk is ours.
-/
import Derived.Test.Qxb6619220aRows
import Derived.WalkKit
import Derived.ProofKit
import Derived.OpenShut
import Derived.ShutString
import Derived.ChangeOld
import Derived.Below
import Derived.SliceStrings
import Derived.Test.Qxb6619220aMerge
namespace Go.Proofs.Qxb6619220a.fnGallopMergeWalkAgreesWithFullSearch
open Go.ChangeShapes Go.WideShapes Go.ChangeAt Go.RowKit
open Go.ChangeMaps (open_string shut_string)
set_option linter.unusedVariables false

theorem own : ownKnob Try.prog.godebug = none := by kernel_rfl
theorem laidOut : laidOutB Try.prog = true := by kernel_rfl

/-- A slice of strings that came in: nil, or a row of strings. -/
def IsRowS (w : World) (a : Option Addr) (len cap : Nat) (ss : List ByteArray) : Prop :=
  (a = none ∧ len = 0 ∧ cap = 0) ∨
  ∃ x, a = some x ∧ len ≤ cap ∧ cap ≤ maxLen ∧ ss.length = cap ∧ (∀ i, i < ss.length → w.cell? (x.add i) = some (.string (ss.getD i ByteArray.empty))) ∧ ∀ s ∈ ss, s.size ≤ maxLen

theorem row_cells {w : World} {x : Addr} {len : Nat} {ss : List ByteArray} (hlen : 0 < len) (hl : len ≤ ss.length) (hcell : ∀ i, i < ss.length → w.cell? (x.add i) = some (.string (ss.getD i ByteArray.empty))) :
    ∃ b off, x = ⟨b, off, none⟩ ∧ ∀ i, i < len → w.cell? ⟨b, off + i, none⟩ = some (.string (ss.getD i ByteArray.empty)) := by
  obtain ⟨b, off, spot⟩ := x
  have hspot : spot = none := by simpa [Addr.add] using World.cell?_spot (hcell 0 (by omega))
  subst hspot
  exact ⟨b, off, rfl, fun i hi => by rw [← Addr.add_lit]; exact hcell i (by omega)⟩

theorem row_sizes {ss : List ByteArray} (h : ∀ s ∈ ss, s.size ≤ maxLen) (i : Nat) (hi : i < ss.length) : (ss.getD i ByteArray.empty).size ≤ 9223372036854775807 := by
  have e : ss.getD i ByteArray.empty = ss[i] := by simp [List.getD, hi]
  rw [e]
  exact h _ (List.getElem_mem hi)

theorem row_strs {w : World} {x : Addr} {len cap : Nat} {ss : List ByteArray} (hl : len ≤ cap) (hz : ss.length = cap) (hcell : ∀ i, i < ss.length → w.cell? (x.add i) = some (.string (ss.getD i ByteArray.empty))) :
    Strs w (some x) len (fun i => ss.getD i ByteArray.empty) := by
  intro h0
  obtain ⟨b, off, rfl, hc⟩ := row_cells (len := len) h0 (by omega) hcell
  exact ⟨b, off, rfl, hc⟩

theorem walk (a0 : Option Addr) (len0 cap0 : Nat) (z0 : List ByteArray) (a1 : Option Addr) (len1 cap1 : Nat) (z1 : List ByteArray) (w : World) (w0 : IsRowS w a0 len0 cap0 z0) (w1 : IsRowS w a1 len1 cap1 z1) :
    Calls Try.prog 4 #[.slice a0 len0 cap0, .slice a1 len1 cap1] w fun e w' => e = .returned (.bool true) ∧ Below w.heap.size w w' := by
  obtain ⟨Q, hQ, hsQ, hm⟩ : ∃ Q, Strs w a1 len1 Q ∧ (∀ i, i < len1 → (Q i).size ≤ 9223372036854775807) ∧ len1 ≤ 9223372036854775807 := by
    rcases w1 with ⟨rfl, rfl, rfl⟩ | ⟨x, rfl, hlc, hcm, hz, hcell, hws⟩
    · exact ⟨fun _ => ⟨#[]⟩, fun h => by omega, fun i hi => by omega, by omega⟩
    · have hcm' : cap1 ≤ 9223372036854775807 := hcm
      exact ⟨_, row_strs hlc hz hcell, fun i hi => row_sizes hws i (by omega), by omega⟩
  rcases w0 with ⟨rfl, rfl, rfl⟩ | ⟨x, rfl, hlc, hcm, hz, hcell, hws⟩
  · by_cases hm2 : len1 ≤ 65536
    · exact law4_nil a1 len1 cap1 Q w hm2 hQ hsQ
    · exact law4_long none a1 0 0 len1 cap1 (fun _ => ⟨#[]⟩) Q w (by omega) hm (by omega) (fun h => by omega) hQ (fun i hi => by omega) hsQ
  · have hcm' : cap0 ≤ 9223372036854775807 := hcm
    have hS := row_strs hlc hz hcell
    have hsS : ∀ i, i < len0 → ((fun i => z0.getD i ByteArray.empty) i).size ≤ 9223372036854775807 := fun i hi => row_sizes hws i (by omega)
    by_cases hb : len0 ≤ 65536 ∧ len1 ≤ 65536
    · exact law4_some x a1 len0 cap0 len1 cap1 _ Q w hb.1 hb.2 hS hQ hsS hsQ
    · exact law4_long (some x) a1 len0 cap0 len1 cap1 _ Q w (by omega) hm (by omega) hS hQ hsS hsQ

/-! ### THE ROW's STEP: WRITTEN OUT: LEAVE IT -/
set_option maxRecDepth 100000 in
theorem lifted (os : Os) (started : os.Started) (H : Type) (enc : TypeId × Value → H) :
    ReturnsInHanded {} Try.checked os 4 .any (Rows.fnGallopMergeWalkAgreesWithFullSearchSpec.pre6 enc Try.prog Try.f4 Rows.fnGallopMergeWalkAgreesWithFullSearchRow.domain false) (Rows.fnGallopMergeWalkAgreesWithFullSearchSpec.post enc Try.prog Try.f4 false true false false) := by
  refine returnsInHanded_of_change (C := Try.checked) own started (by kernel_rfl) Try.func4
    (ChangeSpec.witness6 (enc := enc) (C := Try.checked) false ⟨#[], #[.slice none 0 0, .slice none 0 0], []⟩ 8 (by kernel_rfl) (by kernel_rfl) (by kernel_rfl) (by kernel_rfl)) ?_
  intro W base args ds gs before hval0 hW hcnd _
  have hval : ∀ (j : Nat) t v, Try.f4.params[j]? = some t → args[j]? = some v → Value.okWide Try.prog W .any base t v := hval0
  have hW' := hW
  obtain ⟨p, q, hA0, hV, rfl, hfz, hnd⟩ := hW
  have hA : DataW.TrodAll enc Try.prog W 0 (fun _ => true) true Try.f4.params.toList args.toList ds p := hA0
  rw [Try.params4] at hA hval
  obtain ⟨v0, vs0, d0, ds0, p0, q0, hargs, rfl, rfl, h0, r0⟩ := trodAll_cons hA
  obtain ⟨v1, vs1, d1, ds1, p1, q1, rfl, rfl, rfl, h1, r1⟩ := trodAll_cons r0
  obtain ⟨rfl, rfl, rfl⟩ := trodAll_nil r1
  obtain rfl : args = #[v0, v1] := by cases args; simp_all
  obtain ⟨rfl, rfl⟩ := trodVars_none hV
  obtain ⟨a0, len0, cap0, rfl⟩ := okWide_slice Try.underlying22 (hval 0 22 v0 rfl rfl)
  have k0 := h0
  have lt0 : ∀ x ∈ p0, x.block < W.heap.size := by obtain ⟨m, hm⟩ := k0; exact DataW.trod_lt m _ _ _ hm
  obtain ⟨z0, w0⟩ : ∃ zs, IsRowS W a0 len0 cap0 zs := by
    obtain ⟨fuel, hf⟩ := h0
    rcases open_strings Try.underlying22 Try.underlying9 (by kernel_rfl) hf with ⟨hcs, _⟩ | ⟨x, l, c, zs, hcs, _, hl, hm, hz, _, hcell, hwz⟩
    · simp [Value.cells] at hcs
      obtain ⟨rfl, rfl, rfl⟩ := hcs
      exact ⟨[], .inl ⟨rfl, rfl, rfl⟩⟩
    · simp [Value.cells] at hcs
      obtain ⟨rfl, rfl, rfl⟩ := hcs
      exact ⟨zs, .inr ⟨_, rfl, hl, hm, by simpa using hz, hcell, hwz⟩⟩
  obtain ⟨a1, len1, cap1, rfl⟩ := okWide_slice Try.underlying22 (hval 1 22 v1 rfl rfl)
  have k1 := h1
  have lt1 : ∀ x ∈ p1, x.block < W.heap.size := by obtain ⟨m, hm⟩ := k1; exact DataW.trod_lt m _ _ _ hm
  obtain ⟨z1, w1⟩ : ∃ zs, IsRowS W a1 len1 cap1 zs := by
    obtain ⟨fuel, hf⟩ := h1
    rcases open_strings Try.underlying22 Try.underlying9 (by kernel_rfl) hf with ⟨hcs, _⟩ | ⟨x, l, c, zs, hcs, _, hl, hm, hz, _, hcell, hwz⟩
    · simp [Value.cells] at hcs
      obtain ⟨rfl, rfl, rfl⟩ := hcs
      exact ⟨[], .inl ⟨rfl, rfl, rfl⟩⟩
    · simp [Value.cells] at hcs
      obtain ⟨rfl, rfl, rfl⟩ := hcs
      exact ⟨zs, .inr ⟨_, rfl, hl, hm, by simpa using hz, hcell, hwz⟩⟩
  clear hA0 hval0
  refine (walk a0 len0 cap0 z0 a1 len1 cap1 z1 W w0 w1).mono fun e W' ⟨he, bel⟩ => ?_
  subst he
  exact ⟨_, rfl, _, _, _, [], _, [], hW', trodAll_mk1 (shut_bool Try.underlying4 _), (trodAll_cons_mk (Below.trod laidOut (by kernel_rfl) (of_decide_eq_true (by kernel_rfl)) k0 bel lt0) (trodAll_cons_mk (Below.trod laidOut (by kernel_rfl) (of_decide_eq_true (by kernel_rfl)) k1 bel lt1) trodAll_mk0)), rfl, bel.frame _, fun h => by cases h⟩

theorem over : Rows.fnGallopMergeWalkAgreesWithFullSearchRow.holds Try.pinned (OpenSpec.ofChange Rows.fnGallopMergeWalkAgreesWithFullSearchSpec) :=
  OpenClaim.holds_of_wide 4 Try.f4 rfl rfl rfl rfl rfl rfl rfl ⟨rfl, rfl, rfl, rfl, rfl⟩ rfl rfl rfl rfl rfl (by kernel_rfl) Try.func4 (by kernel_rfl)
    (of_decide_eq_true (by kernel_rfl)) (by unfold Func.isWrapper; first | (rw [if_pos (by decide +kernel)]; kernel_rfl) | (rw [if_neg (by decide +kernel)]; exact ⟨rfl, rfl⟩))
    (fun os started H enc _ => lifted os started H enc)

/-- ████ THE STATEMENT ████ -/
theorem proved : Rows.FnGallopMergeWalkAgreesWithFullSearchSaid := over
end Go.Proofs.Qxb6619220a.fnGallopMergeWalkAgreesWithFullSearch
