/-
  The walks of '(*parser).skipSpace' (17) and 'ZZSkipSpace' (13).
-/
import Derived.Test.Qxb6619267aSkip
namespace Go.Proofs.Qxb6619267a
open Go.RowKit Pl

/-- The parser at block g: its bytes, its place q, its mode. -/
def Pst (wr : World) (g : Nat) (a : Option Addr) (n c q : Nat) (s : Bool) : Prop := wr.heap[g]? = some (.cells #[.slice a n c, .int .i64 q, .bool s] 31 (0, 0))
def posAt (wr : World) (g : Nat) : Nat := (intOf ((wr.cell? ⟨g, 1, none⟩).getD undef)).toNat

theorem Pst.c0 {wr : World} {g n c q : Nat} {a : Option Addr} {s : Bool} (h : Pst wr g a n c q s) : wr.cell? ⟨g, 0, none⟩ = some (.slice a n c) := by rw [cell_of_row wr g 0 _ 31 (0, 0) h]; rfl
theorem Pst.c1 {wr : World} {g n c q : Nat} {a : Option Addr} {s : Bool} (h : Pst wr g a n c q s) : wr.cell? ⟨g, 1, none⟩ = some (.int .i64 q) := by rw [cell_of_row wr g 1 _ 31 (0, 0) h]; rfl
theorem Pst.c2 {wr : World} {g n c q : Nat} {a : Option Addr} {s : Bool} (h : Pst wr g a n c q s) : wr.cell? ⟨g, 2, none⟩ = some (.bool s) := by rw [cell_of_row wr g 2 _ 31 (0, 0) h]; rfl
theorem Pst.fr {wr : World} {g n c q : Nat} {a : Option Addr} {s : Bool} (h : Pst wr g a n c q s) : wr.frozen? ⟨g, 1, none⟩ = false := frozen_of_row wr g 1 _ 31 h
theorem Pst.pos {wr : World} {g n c q : Nat} {a : Option Addr} {s : Bool} (h : Pst wr g a n c q s) : posAt wr g = q := by unfold posAt; rw [h.c1]; simp [intOf]
theorem Pst.drewN {wr : World} {g n c q : Nat} {a : Option Addr} {s : Bool} (h : Pst wr g a n c q s) (m : Nat) : Pst (wr.drewN m) g a n c q s := h
theorem Pst.set {wr : World} {g n c q : Nat} {a : Option Addr} {s : Bool} (h : Pst wr g a n c q s) (q' : Int) (r : Nat) (hr : q' = (r : Int)) : Pst (wr.setCell ⟨g, 1, none⟩ (.int .i64 q')) g a n c r s := by
  subst hr
  exact heap_setCell_same wr g 1 _ 31 (.int .i64 (r : Int)) h

theorem meas {W wr : World} {g n c q q' : Nat} {a : Option Addr} {s : Bool} (h1 : Pst W g a n c q' s) (h2 : posAt wr g = q) (hq : q < q') (hn : q < n) : n - posAt W g < n - posAt wr g := by rw [h1.pos, h2]; omega

set_option maxRecDepth 100000 in
set_option maxHeartbeats 4000000 in
theorem skip17 (g n c p : Nat) (a : Option Addr) (f : Nat → Int) (s : Bool) (w : World) (hg : Pst w g a n c p s) (hI : ∀ wr, Below g w wr → Ints wr a n f) (hp : p ≤ n) (hn : n ≤ 65536) :
    Calls Try.prog 17 #[.pointer (some ⟨g, 0, none⟩)] w fun e w' => e = .returned (.tuple #[]) ∧ Pst w' g a n c (skip f n p) s ∧ Below g w w' := by
  have HI := hide_of hI
  obtain ⟨R, hR⟩ : ∃ R, scan f n (n - p) false p = R := ⟨_, rfl⟩
  have HR : Hid (skip f n p = R) := hR
  clear hI
  go_enter Try.func17, Try.ntmps17
  go_wp2_with fail
  go_loopw [2, 23, 33] (fun _ _ _ wr => ∃ q : Nat, q ≤ n ∧ Pst wr g a n c q s ∧ Below g w wr ∧ scan f n (n - q) false q = R) (fun _ _ _ wr => n - posAt wr g)
  case atStart => exact ⟨p, hp, hg, Below.refl _ _, hR⟩
  case round =>
    clear hR hg
    obtain ⟨q, hq, hs, hb, hsc⟩ := hrel
    have HP := hide_of hs
    have HSC := hide_of hsc
    have hc0 := hs.c0
    have hc1 := hs.c1
    have hfr := hs.fr
    have hps := hs.pos
    have HPS := hide_of hps
    clear hs hsc hps
    by_cases hlt : q < n
    · obtain ⟨b, off, e1, hcq⟩ := (HI.out wr hb).at q hlt
      subst e1
      have hl1 : (q : Int) < (n : Int) := by omega
      cases hw : white (f q) with
      | true =>
        have HS2 : Hid (scan f n (n - (q + 1)) false (q + 1) = R) := by have := HSC.out; rw [scan_step hlt false false (st_white hw)] at this; exact this
        generalize f q = x at hcq hw
        go_wp2_with fail
        go_quiet (fail)
        go_wp2_with fail
        go_quiet (fail)
        go_wp2_with (go_at_call 18; refine (space_any _ _).mono ?_; rintro e w2 ⟨rfl, hw⟩; have hw2 := hw.symm; clear hw; subst hw2)
        go_roundw
        case rel => exact ⟨q + 1, by omega, (HP.out.drewN _).set _ (q + 1) (by simp), (below_drewN hb _).setCell (Nat.le_refl _) _, HS2.out⟩
        case measure =>
          exact meas ((HP.out.drewN _).set _ (q + 1) (by simp)) HPS.out (by omega) hlt
      | false =>
        by_cases h37 : f q = 37
        · have HS2 : Hid (scan f n (n - q) true q = R) := by
            have := HSC.out
            rw [scan_step hlt false true (st_pct h37)] at this
            have h2 := scan_step hlt true true (st_on (x := f q) (by omega) (by omega))
            exact h2.trans this
          have HX : Hid (f q = 37) := h37
          rw [h37] at hcq
          clear h37 hw
          have hw : white 37 = false := rfl
          go_wp2_with fail
          go_quiet (fail)
          go_wp2_with fail
          go_quiet (fail)
          go_wp2_with (go_at_call 18; refine (space_any _ _).mono ?_; rintro e w2 ⟨rfl, hw⟩; have hw2 := hw.symm; clear hw; subst hw2)
          rename World => w1
          clear hc0 hc1 hfr hcq hl1 hw
          go_loopw [71] (fun _ wr => ∃ q2 : Nat, q ≤ q2 ∧ q2 ≤ n ∧ Pst wr g (some ⟨b, off, none⟩) n c q2 s ∧ Below g w wr ∧ scan f n (n - q2) true q2 = R) (fun _ wr => n - posAt wr g)
          case atStart => exact ⟨q, Nat.le_refl _, hq, HP.out, below_drewN hb _, HS2.out⟩
          case round =>
            clear hb
            obtain ⟨q2, hqq, hq2, hs, hb, hsc⟩ := hrel
            have HP2 := hide_of hs
            have hc0 := hs.c0
            have hc1 := hs.c1
            have hfr := hs.fr
            have HPS2 := hide_of hs.pos
            have HSC2 := hide_of hsc
            clear hs hsc
            by_cases hlt2 : q2 < n
            · obtain ⟨b', off', e1, hcq⟩ := (HI.out wr hb).at q2 hlt2
              cases e1
              have hl1 : (q2 : Int) < (n : Int) := by omega
              by_cases h10 : f q2 = 10 ∨ f q2 = 13
              · have HS3 : Hid (scan f n (n - q2) false q2 = R) := by
                  have h1 := scan_step hlt2 true false (st_eol h10).1
                  have h2 := scan_step hlt2 false false (st_eol h10).2
                  exact h2.trans (h1.symm.trans HSC2.out)
                have hne : q2 ≠ q := fun e => by rw [e, HX.out] at h10; omega
                have hlt3 : q < q2 := by omega
                clear hne
                rcases h10 with h10 | h10
                all_goals
                  rw [h10] at hcq
                  clear h10
                  go_wp2_with fail
                  go_quiet (fail)
                  go_wp2_with fail
                  go_roundw
                  case rel => exact ⟨q2, hq2, HP2.out, below_drewN hb _, HS3.out⟩
                  case measure => exact meas HP2.out HPS.out hlt3 hlt
              · have HS3 : Hid (scan f n (n - (q2 + 1)) true (q2 + 1) = R) := by
                  have h1 := scan_step hlt2 true true (st_on (x := f q2) (fun e => h10 (.inl e)) (fun e => h10 (.inr e)))
                  exact h1.symm.trans HSC2.out
                have h1' : (f q2 != 10) = true := by simp; exact fun e => h10 (.inl e)
                have h2' : (f q2 != 13) = true := by simp; exact fun e => h10 (.inr e)
                clear h10
                generalize f q2 = x at hcq h1' h2'
                go_wp2_with fail
                go_quiet (fail)
                go_wp2_with fail
                go_roundw
                case rel => exact ⟨q2 + 1, by omega, by omega, (HP2.out.drewN _).set _ (q2 + 1) (by simp), (below_drewN hb _).setCell (Nat.le_refl _) _, HS3.out⟩
                case measure => exact meas ((HP2.out.drewN _).set _ (q2 + 1) (by simp)) HPS2.out (by omega) hlt2
            · obtain rfl : q2 = n := by omega
              have hRn : R = q2 := by rw [← HSC2.out, scan_end]
              have HRN := hide_of hRn
              clear hRn
              go_wp2_with fail
              go_quiet (fail)
              go_wp2_with fail
              go_roundw
              case rel => exact ⟨q2, hq2, HP2.out, below_drewN hb _, by rw [HRN.out, scan_end]⟩
              case measure => exact meas HP2.out HPS.out hlt hlt
        · have hR2 : R = q := by rw [← HSC.out, scan_stop hlt false (st_none hw h37)]
          have HR2 := hide_of hR2
          have h37' : (f q == 37) = false := by simpa using h37
          clear hR2 h37
          generalize f q = x at hcq hw h37'
          go_wp2_with fail
          go_quiet (fail)
          go_wp2_with fail
          go_quiet (fail)
          go_wp2_with (go_at_call 18; refine (space_any _ _).mono ?_; rintro e w2 ⟨rfl, hw⟩; have hw2 := hw.symm; clear hw; subst hw2)
          refine bodyPost_ret (results_none rfl _ _ _) rfl ?_
          refine ⟨rfl, ?_, ?_⟩
          · rw [HR.out, HR2.out]; exact HP.out
          · exact below_drewN hb _
    · obtain rfl : q = n := by omega
      have hR2 : R = q := by rw [← HSC.out, scan_end]
      go_wp2_with fail
      go_quiet (fail)
      go_wp2_with fail
      go_end0
      refine ⟨rfl, ?_, ?_⟩
      · rw [HR.out, hR2]; exact HP.out
      · exact below_drewN hb _
end Go.Proofs.Qxb6619267a
