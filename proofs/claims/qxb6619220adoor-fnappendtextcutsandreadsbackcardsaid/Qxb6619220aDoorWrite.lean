/-
  The walks of 'appendActor' (12), 'strconv.AppendUint' (13), 'appendText' (9), 'ZZAppendText' (6).
-/
import Derived.Test.Qxb6619220aDoorPlain
import Derived.Test.Qxb6619220aDoorShelf
import Derived.Test.Qxb6619220aDoorRows
import Derived.WalkKit
import Derived.WalkSpells
import Derived.WalkLawsBesides
import Derived.Deep.AppendLies
import Derived.Deep.RegionLaw
import Derived.Lib.OthersKept
import Derived.Lib.OwnKind
namespace Go.Proofs.Qxb6619220aDoor
open Go.RowKit Pl
open Go.Lib (byteCells)

theorem Tryd.info5 : (Tryd.prog.info? 5).map (fun i => (i.zero, i.size, i.bytes)) = some (some (.int .u8 0), 1, 1) := by kernel_rfl

/-- Below B nothing has turned; no block has turned that is no row of bytes. -/
def Fr (B : Nat) (w w' : World) : Prop := Below B w w' ∧ Lib.OthersKept 5 none w w'

theorem Fr.refl (B : Nat) (w : World) : Fr B w w := ⟨Below.refl _ _, Lib.OthersKept.refl _ _ _⟩
theorem Fr.trans {B : Nat} {a b c : World} (h : Fr B a b) (k : Fr B b c) : Fr B a c := ⟨h.1.trans k.1, h.2.trans k.2⟩
theorem Fr.drew {B : Nat} {a w : World} (h : Fr B a w) : Fr B a w.drew := ⟨h.1.drew, h.2.drew⟩
theorem Fr.alloc {B : Nat} {a w : World} (h : Fr B a w) (hB : B ≤ w.heap.size) (o : Obj) : Fr B a (w.alloc o) := ⟨h.1.alloc hB o, h.2.alloc o⟩
theorem Fr.grown {B : Nat} {a w w' : World} {v : Value} {n : Nat} {xs : List Value} (h : Fr B a w) (ho : w.ownsRow B 5 1 v n xs) (hg : w.grownBy w' v.ownBlock) (hB : B ≤ w.heap.size) : Fr B a w' :=
  ⟨h.1.grown hg hB (fun k hk => (ho.lt k hk).1), h.2.grown hg (Lib.ownsRow_kind ho)⟩

/-- What comes back owns what was owned and, behind it, L. -/
def App (B n : Nat) (xs : List Value) (L : List UInt8) (w : World) (e : Ending) (w' : World) : Prop :=
  ∃ v', e = .returned v' ∧ w'.ownsRow B 5 1 v' (n + L.length) (xs ++ byteCells L) ∧ Fr B w w'

theorem news_of {W : World} {b : Nat} {cs : Array Value} {t : TypeId} (h : W.heap[b]? = some (.cells cs t (0, 0))) : ∀ j u, cs.toList[j]? = some u → W.cell? ((⟨b, 0, none⟩ : Addr).add j) = some u :=
  World.news_of_block h

theorem news_new {W : World} {B : Nat} {cs : List Value} {t : TypeId} (h : W.heap.size = B) : ∀ j u, cs[j]? = some u → (W.alloc (.cells cs.toArray t)).cell? ((⟨B, 0, none⟩ : Addr).add j) = some u := by
  subst h
  have := news_of (heap_alloc_new W (.cells cs.toArray t))
  simpa using this

theorem cells_one (l : List Int) : ∀ u ∈ l.map (Value.int .u8), u.oneCell' = true := ints_oneCell _ _

theorem u8_of {c : UInt8} {k : Nat} (hk : k < 256) (h : c.toNat = k) : c = UInt8.ofNat k := by
  apply UInt8.toNat_inj.1
  rw [h, UInt8.toNat_ofNat']; omega

theorem esc_34 {c : UInt8} (h : c.toNat = 34) : byteCells (escB c) = [.int .u8 92, .int .u8 c.toNat] := by rw [u8_of (by omega) h]; rfl
theorem esc_92 {c : UInt8} (h : c.toNat = 92) : byteCells (escB c) = [.int .u8 92, .int .u8 c.toNat] := by rw [u8_of (by omega) h]; rfl
theorem esc_8 {c : UInt8} (h : c.toNat = 8) : byteCells (escB c) = [.int .u8 92, .int .u8 98] := by rw [u8_of (by omega) h]; rfl
theorem esc_12 {c : UInt8} (h : c.toNat = 12) : byteCells (escB c) = [.int .u8 92, .int .u8 102] := by rw [u8_of (by omega) h]; rfl
theorem esc_10 {c : UInt8} (h : c.toNat = 10) : byteCells (escB c) = [.int .u8 92, .int .u8 110] := by rw [u8_of (by omega) h]; rfl
theorem esc_13 {c : UInt8} (h : c.toNat = 13) : byteCells (escB c) = [.int .u8 92, .int .u8 114] := by rw [u8_of (by omega) h]; rfl
theorem esc_9 {c : UInt8} (h : c.toNat = 9) : byteCells (escB c) = [.int .u8 92, .int .u8 116] := by rw [u8_of (by omega) h]; rfl

def hexI (x : Int) : Int := if x < 10 then 48 + x else 87 + x

theorem esc_ctl_all : (List.range 32).all (fun n => n == 8 || n == 12 || n == 10 || n == 13 || n == 9 || (escB (UInt8.ofNat n)).map (fun b => (b.toNat : Int)) == [92, 117, 48, 48, hexI ((n : Int) / 16), hexI ((n : Int) % 16)]) = true := by decide +kernel
theorem esc_ctl {c : UInt8} (h : c.toNat < 32) (h1 : c.toNat ≠ 8) (h2 : c.toNat ≠ 12) (h3 : c.toNat ≠ 10) (h4 : c.toNat ≠ 13) (h5 : c.toNat ≠ 9) :
    byteCells (escB c) = [.int .u8 92, .int .u8 117, .int .u8 48, .int .u8 48, .int .u8 (hexI ((c.toNat : Int) / 16)), .int .u8 (hexI ((c.toNat : Int) % 16))] := by
  have h0 := List.all_eq_true.1 esc_ctl_all c.toNat (List.mem_range.2 h)
  simp only [Bool.or_eq_true, beq_iff_eq, h1, h2, h3, h4, h5, false_or] at h0
  rw [← u8_of (c := c) (by omega) rfl] at h0
  have e : byteCells (escB c) = ((escB c).map (fun b => (b.toNat : Int))).map (Value.int .u8) := by simp [byteCells]
  rw [e, h0]
  rfl
theorem esc_raw {c : UInt8} (h : 32 ≤ c.toNat) (h1 : c.toNat ≠ 34) (h2 : c.toNat ≠ 92) : escB c = [c] := by
  have ne : ∀ k : UInt8, k.toNat ≠ c.toNat → ¬ c = k := fun k hk e => hk (by rw [e])
  unfold escB
  rw [if_neg (ne _ (by simp; omega)), if_neg (ne _ (by simp; omega)), if_neg (ne _ (by simp; omega)), if_neg (ne _ (by simp; omega)), if_neg (ne _ (by simp; omega)), if_neg (ne _ (by simp; omega)), if_neg (ne _ (by simp; omega)), if_neg (by rw [UInt8.lt_iff_toNat_lt]; simp; omega)]

theorem own_step {w : World} {B n m k : Nat} {xs news : List Value} {s : ByteArray} {v : Value} (h : w.ownsRow B 5 1 v (n + (34 :: escS (s.data.toList.take k)).length + m) ((xs ++ byteCells (34 :: escS (s.data.toList.take k))) ++ news)) (hk : k < s.size)
    (e : byteCells (escB s[k]) = news) (hm : news.length = m) : w.ownsRow B 5 1 v (n + (34 :: escS (s.data.toList.take (k + 1))).length) (xs ++ byteCells (34 :: escS (s.data.toList.take (k + 1)))) := by
  have e1 : s.data.toList.take (k + 1) = s.data.toList.take k ++ [s[k]] := by rw [List.take_succ_eq_append_getElem (by simpa using hk)]; rfl
  have el : (escB s[k]).length = m := by rw [← hm, ← e]; simp [byteCells]
  have e2 : n + (34 :: escS (s.data.toList.take (k + 1))).length = n + (34 :: escS (s.data.toList.take k)).length + m := by rw [e1, escS_snoc]; simp; omega
  have e3 : xs ++ byteCells (34 :: escS (s.data.toList.take (k + 1))) = (xs ++ byteCells (34 :: escS (s.data.toList.take k))) ++ news := by rw [e1, escS_snoc, ← e]; simp [byteCells]
  rw [e2, e3]
  exact h

theorem hex_run (w : World) : (∀ (n : Fin 16), (Instr.index 9 (.string ⟨#[48, 49, 50, 51, 52, 53, 54, 55, 56, 57, 97, 98, 99, 100, 101, 102]⟩) (.int .u8 (n.val : Int))).run Tryd.prog w = .ok (.int .u8 (hexI (n.val : Int))) w)
  | ⟨0, _⟩ => by kernel_rfl
  | ⟨1, _⟩ => by kernel_rfl
  | ⟨2, _⟩ => by kernel_rfl
  | ⟨3, _⟩ => by kernel_rfl
  | ⟨4, _⟩ => by kernel_rfl
  | ⟨5, _⟩ => by kernel_rfl
  | ⟨6, _⟩ => by kernel_rfl
  | ⟨7, _⟩ => by kernel_rfl
  | ⟨8, _⟩ => by kernel_rfl
  | ⟨9, _⟩ => by kernel_rfl
  | ⟨10, _⟩ => by kernel_rfl
  | ⟨11, _⟩ => by kernel_rfl
  | ⟨12, _⟩ => by kernel_rfl
  | ⟨13, _⟩ => by kernel_rfl
  | ⟨14, _⟩ => by kernel_rfl
  | ⟨15, _⟩ => by kernel_rfl
  | ⟨n + 16, h⟩ => absurd h (by omega)
theorem hex_at (x : Int) (h0 : 0 ≤ x) (h1 : x < 16) (w : World) : (Instr.index 9 (.string ⟨#[48, 49, 50, 51, 52, 53, 54, 55, 56, 57, 97, 98, 99, 100, 101, 102]⟩) (.int .u8 x)).run Tryd.prog w = .ok (.int .u8 (hexI x)) w := by
  obtain ⟨n, rfl⟩ := Int.eq_ofNat_of_zero_le h0
  exact hex_run w ⟨n, by omega⟩

theorem hide_of {p : Prop} (h : p) : Hid p := h

set_option maxHeartbeats 4000000 in
theorem actor_any (B n : Nat) (v : Value) (xs : List Value) (s : ByteArray) (w : World) (hown : w.ownsRow B 5 1 v n xs) (hb : B ≤ w.heap.size) (hs : s.size ≤ 1048576) (hn : n ≤ 70368744177664) :
    Calls Tryd.prog 12 #[v, .string s] w (App B n xs (nameT s.data.toList) w) := by
  obtain ⟨i0, hi, hz0, hz1, hz2⟩ := info_parts Tryd.info5
  have HO : Hid (w.ownsRow B 5 1 v n xs) := hown
  clear hown
  go_enter Tryd.func12, Tryd.ntmps12
  go_wp2_with (at_builtin; refine wpList_append_own _ rfl (.tmp 7) (.tmp 8) 24 rfl B 5 i0 (.int .u8 0) 1 1 Tryd.underlying24 hi hz0 hz1 hz2 rfl (by decide) v n xs rfl (HO.out.alloc _) ⟨w.heap.size, 0, none⟩ 1 1 [.int .u8 34] rfl rfl (news_new (by simp)) (cells_one [34]) (by unfold maxLen; omega) (by omega) (by simp; omega) ?_; intro v1 w1 hown1 hgrow1 _)
  have hb1 : Fr B w w1 := ((Fr.refl _ _).alloc hb _).grown (HO.out.alloc _) hgrow1 (by simp; omega)
  clear hgrow1
  go_loopw [0, 5] (fun d i wr => ∃ k : Nat, i = .int .i64 k ∧ k ≤ s.size ∧ wr.ownsRow B 5 1 d (n + (34 :: escS (s.data.toList.take k)).length) (xs ++ byteCells (34 :: escS (s.data.toList.take k))) ∧ Fr B w wr) (fun _ i _ => s.size - (intOf i).toNat)
  case atStart => exact ⟨0, rfl, Nat.zero_le _, by simpa [escS, byteCells] using hown1, hb1⟩
  case round =>
    clear hown1 hb1
    obtain ⟨k, rfl, hk, hd, hbr⟩ := hrel
    have hle := escS_len (s.data.toList.take k)
    have htl : (s.data.toList.take k).length ≤ k := List.length_take_le _ _
    have hcl : (34 :: escS (s.data.toList.take k)).length = (escS (s.data.toList.take k)).length + 1 := rfl
    have HD : Hid (wr.ownsRow B 5 1 u0 (n + (34 :: escS (s.data.toList.take k)).length) (xs ++ byteCells (34 :: escS (s.data.toList.take k)))) := hd
    have hbs := hbr.1.size
    clear hd
    by_cases hlt : k < s.size
    · have hcb : s[k].toNat < 256 := s[k].toNat_lt
      rcases (show s[k].toNat = 34 ∨ s[k].toNat = 92 ∨ s[k].toNat = 8 ∨ s[k].toNat = 12 ∨ s[k].toNat = 10 ∨ s[k].toNat = 13 ∨ s[k].toNat = 9 ∨
        (s[k].toNat < 32 ∧ s[k].toNat ≠ 8 ∧ s[k].toNat ≠ 12 ∧ s[k].toNat ≠ 10 ∧ s[k].toNat ≠ 13 ∧ s[k].toNat ≠ 9) ∨ (32 ≤ s[k].toNat ∧ s[k].toNat ≠ 34 ∧ s[k].toNat ≠ 92) by omega) with hc | hc | hc | hc | hc | hc | hc | hc | hc
      all_goals have HCC := hide_of hc
      all_goals clear hc
      · have e34 : ((s[k].toNat : Int) == 34) = true := by have := HCC.out; simp; omega
        go_wp2_with (at_builtin; refine wpList_append_own _ rfl (.tmp 38) (.tmp 40) 24 rfl B 5 i0 (.int .u8 0) 1 1 Tryd.underlying24 hi hz0 hz1 hz2 rfl (by decide) u0 _ _ rfl (HD.out.alloc _) ⟨wr.heap.size, 0, none⟩ 2 2 [.int .u8 92, .int .u8 ((s[k].toNat : Nat) : Int)] rfl rfl (news_new (by simp)) (fun u hu => by simp at hu; rcases hu with rfl | rfl <;> rfl) (by unfold maxLen; omega) (by omega) (by simp; omega) ?_; intro v2 w2 hown2 hgrow2 _)
        have hb2 : Fr B w w2 := (hbr.alloc (by omega) _).grown (HD.out.alloc _) hgrow2 (by simp; omega)
        clear hgrow2
        go_roundw
        case rel => exact ⟨k + 1, by go_num, by omega, own_step hown2 hlt (esc_34 HCC.out) rfl, hb2⟩
        case measure => simp [intOf]; omega
      · have e34 : ((s[k].toNat : Int) == 34) = false := by have := HCC.out; simp; omega
        have e92 : ((s[k].toNat : Int) == 92) = true := by have := HCC.out; simp; omega
        go_wp2_with (at_builtin; refine wpList_append_own _ rfl (.tmp 38) (.tmp 40) 24 rfl B 5 i0 (.int .u8 0) 1 1 Tryd.underlying24 hi hz0 hz1 hz2 rfl (by decide) u0 _ _ rfl (HD.out.alloc _) ⟨wr.heap.size, 0, none⟩ 2 2 [.int .u8 92, .int .u8 ((s[k].toNat : Nat) : Int)] rfl rfl (news_new (by simp)) (fun u hu => by simp at hu; rcases hu with rfl | rfl <;> rfl) (by unfold maxLen; omega) (by omega) (by simp; omega) ?_; intro v2 w2 hown2 hgrow2 _)
        have hb2 : Fr B w w2 := (hbr.alloc (by omega) _).grown (HD.out.alloc _) hgrow2 (by simp; omega)
        clear hgrow2
        go_roundw
        case rel => exact ⟨k + 1, by go_num, by omega, own_step hown2 hlt (esc_92 HCC.out) rfl, hb2⟩
        case measure => simp [intOf]; omega
      · have e34 : ((s[k].toNat : Int) == 34) = false := by have := HCC.out; simp; omega
        have e92 : ((s[k].toNat : Int) == 92) = false := by have := HCC.out; simp; omega
        have e8 : ((s[k].toNat : Int) == 8) = true := by have := HCC.out; simp; omega
        go_wp2_with (at_builtin; refine wpList_append_own _ rfl (.tmp 44) (.tmp 45) 24 rfl B 5 i0 (.int .u8 0) 1 1 Tryd.underlying24 hi hz0 hz1 hz2 rfl (by decide) u0 _ _ rfl (HD.out.alloc _) ⟨wr.heap.size, 0, none⟩ 2 2 [.int .u8 92, .int .u8 98] rfl rfl (news_new (by simp)) (fun u hu => by simp at hu; rcases hu with rfl | rfl <;> rfl) (by unfold maxLen; omega) (by omega) (by simp; omega) ?_; intro v2 w2 hown2 hgrow2 _)
        have hb2 : Fr B w w2 := (hbr.alloc (by omega) _).grown (HD.out.alloc _) hgrow2 (by simp; omega)
        clear hgrow2
        go_roundw
        case rel => exact ⟨k + 1, by go_num, by omega, own_step hown2 hlt (esc_8 HCC.out) rfl, hb2⟩
        case measure => simp [intOf]; omega
      · have e34 : ((s[k].toNat : Int) == 34) = false := by have := HCC.out; simp; omega
        have e92 : ((s[k].toNat : Int) == 92) = false := by have := HCC.out; simp; omega
        have e8 : ((s[k].toNat : Int) == 8) = false := by have := HCC.out; simp; omega
        have e12 : ((s[k].toNat : Int) == 12) = true := by have := HCC.out; simp; omega
        go_wp2_with (at_builtin; refine wpList_append_own _ rfl (.tmp 49) (.tmp 50) 24 rfl B 5 i0 (.int .u8 0) 1 1 Tryd.underlying24 hi hz0 hz1 hz2 rfl (by decide) u0 _ _ rfl (HD.out.alloc _) ⟨wr.heap.size, 0, none⟩ 2 2 [.int .u8 92, .int .u8 102] rfl rfl (news_new (by simp)) (fun u hu => by simp at hu; rcases hu with rfl | rfl <;> rfl) (by unfold maxLen; omega) (by omega) (by simp; omega) ?_; intro v2 w2 hown2 hgrow2 _)
        have hb2 : Fr B w w2 := (hbr.alloc (by omega) _).grown (HD.out.alloc _) hgrow2 (by simp; omega)
        clear hgrow2
        go_roundw
        case rel => exact ⟨k + 1, by go_num, by omega, own_step hown2 hlt (esc_12 HCC.out) rfl, hb2⟩
        case measure => simp [intOf]; omega
      · have e34 : ((s[k].toNat : Int) == 34) = false := by have := HCC.out; simp; omega
        have e92 : ((s[k].toNat : Int) == 92) = false := by have := HCC.out; simp; omega
        have e8 : ((s[k].toNat : Int) == 8) = false := by have := HCC.out; simp; omega
        have e12 : ((s[k].toNat : Int) == 12) = false := by have := HCC.out; simp; omega
        have e10 : ((s[k].toNat : Int) == 10) = true := by have := HCC.out; simp; omega
        go_wp2_with (at_builtin; refine wpList_append_own _ rfl (.tmp 54) (.tmp 55) 24 rfl B 5 i0 (.int .u8 0) 1 1 Tryd.underlying24 hi hz0 hz1 hz2 rfl (by decide) u0 _ _ rfl (HD.out.alloc _) ⟨wr.heap.size, 0, none⟩ 2 2 [.int .u8 92, .int .u8 110] rfl rfl (news_new (by simp)) (fun u hu => by simp at hu; rcases hu with rfl | rfl <;> rfl) (by unfold maxLen; omega) (by omega) (by simp; omega) ?_; intro v2 w2 hown2 hgrow2 _)
        have hb2 : Fr B w w2 := (hbr.alloc (by omega) _).grown (HD.out.alloc _) hgrow2 (by simp; omega)
        clear hgrow2
        go_roundw
        case rel => exact ⟨k + 1, by go_num, by omega, own_step hown2 hlt (esc_10 HCC.out) rfl, hb2⟩
        case measure => simp [intOf]; omega
      · have e34 : ((s[k].toNat : Int) == 34) = false := by have := HCC.out; simp; omega
        have e92 : ((s[k].toNat : Int) == 92) = false := by have := HCC.out; simp; omega
        have e8 : ((s[k].toNat : Int) == 8) = false := by have := HCC.out; simp; omega
        have e12 : ((s[k].toNat : Int) == 12) = false := by have := HCC.out; simp; omega
        have e10 : ((s[k].toNat : Int) == 10) = false := by have := HCC.out; simp; omega
        have e13 : ((s[k].toNat : Int) == 13) = true := by have := HCC.out; simp; omega
        go_wp2_with (at_builtin; refine wpList_append_own _ rfl (.tmp 59) (.tmp 60) 24 rfl B 5 i0 (.int .u8 0) 1 1 Tryd.underlying24 hi hz0 hz1 hz2 rfl (by decide) u0 _ _ rfl (HD.out.alloc _) ⟨wr.heap.size, 0, none⟩ 2 2 [.int .u8 92, .int .u8 114] rfl rfl (news_new (by simp)) (fun u hu => by simp at hu; rcases hu with rfl | rfl <;> rfl) (by unfold maxLen; omega) (by omega) (by simp; omega) ?_; intro v2 w2 hown2 hgrow2 _)
        have hb2 : Fr B w w2 := (hbr.alloc (by omega) _).grown (HD.out.alloc _) hgrow2 (by simp; omega)
        clear hgrow2
        go_roundw
        case rel => exact ⟨k + 1, by go_num, by omega, own_step hown2 hlt (esc_13 HCC.out) rfl, hb2⟩
        case measure => simp [intOf]; omega
      · have e34 : ((s[k].toNat : Int) == 34) = false := by have := HCC.out; simp; omega
        have e92 : ((s[k].toNat : Int) == 92) = false := by have := HCC.out; simp; omega
        have e8 : ((s[k].toNat : Int) == 8) = false := by have := HCC.out; simp; omega
        have e12 : ((s[k].toNat : Int) == 12) = false := by have := HCC.out; simp; omega
        have e10 : ((s[k].toNat : Int) == 10) = false := by have := HCC.out; simp; omega
        have e13 : ((s[k].toNat : Int) == 13) = false := by have := HCC.out; simp; omega
        have e9 : ((s[k].toNat : Int) == 9) = true := by have := HCC.out; simp; omega
        go_wp2_with (at_builtin; refine wpList_append_own _ rfl (.tmp 64) (.tmp 65) 24 rfl B 5 i0 (.int .u8 0) 1 1 Tryd.underlying24 hi hz0 hz1 hz2 rfl (by decide) u0 _ _ rfl (HD.out.alloc _) ⟨wr.heap.size, 0, none⟩ 2 2 [.int .u8 92, .int .u8 116] rfl rfl (news_new (by simp)) (fun u hu => by simp at hu; rcases hu with rfl | rfl <;> rfl) (by unfold maxLen; omega) (by omega) (by simp; omega) ?_; intro v2 w2 hown2 hgrow2 _)
        have hb2 : Fr B w w2 := (hbr.alloc (by omega) _).grown (HD.out.alloc _) hgrow2 (by simp; omega)
        clear hgrow2
        go_roundw
        case rel => exact ⟨k + 1, by go_num, by omega, own_step hown2 hlt (esc_9 HCC.out) rfl, hb2⟩
        case measure => simp [intOf]; omega
      · have hsk0 : (0 : Int) ≤ (s[k].toNat : Int) / 16 := by omega
        have e34 : ((s[k].toNat : Int) == 34) = false := by have := HCC.out; simp; omega
        have e92 : ((s[k].toNat : Int) == 92) = false := by have := HCC.out; simp; omega
        have e8 : ((s[k].toNat : Int) == 8) = false := by have := HCC.out; simp; omega
        have e12 : ((s[k].toNat : Int) == 12) = false := by have := HCC.out; simp; omega
        have e10 : ((s[k].toNat : Int) == 10) = false := by have := HCC.out; simp; omega
        have e13 : ((s[k].toNat : Int) == 13) = false := by have := HCC.out; simp; omega
        have e9 : ((s[k].toNat : Int) == 9) = false := by have := HCC.out; simp; omega
        have e32 : (s[k].toNat : Int) < 32 := by have := HCC.out; omega
        have e33 : decide ((s[k].toNat : Int) < 32) = true := by have := HCC.out; simp; omega
        have hi1 := hex_at ((s[k].toNat : Int) / 16) (by omega) (by omega)
        have hi2 := hex_at ((s[k].toNat : Int) % 16) (by omega) (by omega)
        have hand : bits BinOp.and IntKind.u8 (s[k].toNat : Int) 15 = (s[k].toNat : Int) % 16 := u8_and15 _ (by omega) (by omega)
        go_wp2_with fail
        go_region_law ((refine step_append_lies _ (by rfl) (.tmp 22) (.tmp 29) 24 (by rfl) B 5 i0 (.int .u8 0) 1 1 Tryd.underlying24 hi hz0 hz1 hz2 rfl (by decide) u0 _ _ (by rfl) (by exact HD.out.alloc _) ⟨wr.heap.size, 0, none⟩ 6 6 [.int .u8 92, .int .u8 117, .int .u8 48, .int .u8 48, .int .u8 (hexI ((s[k].toNat : Int) / 16)), .int .u8 (hexI ((s[k].toNat : Int) % 16))] (by rfl) rfl (by exact news_new (by simp)) (fun u hu => by simp at hu; rcases hu with rfl | rfl | rfl | rfl | rfl | rfl <;> rfl) (by omega) (by unfold maxLen; omega) (by omega) (by simp; omega) wr.heap.size.succ (by simp) ?_; intro g2 c2 w2 hown2 hgrow2 hat2 hlt2))
        all_goals
          go_wp2
          have hb2 : Fr B w w2 := ((hbr.alloc (by omega) _).drew).grown (HD.out.alloc _).drew hgrow2 (by simp; omega)
          clear hgrow2
          go_roundw
          case rel => exact ⟨k + 1, by go_num, by omega, own_step hown2 hlt (esc_ctl HCC.out.1 HCC.out.2.1 HCC.out.2.2.1 HCC.out.2.2.2.1 HCC.out.2.2.2.2.1 HCC.out.2.2.2.2.2) rfl, hb2⟩
          case measure => simp [intOf]; omega
      · have e34 : ((s[k].toNat : Int) == 34) = false := by have := HCC.out; simp; omega
        have e92 : ((s[k].toNat : Int) == 92) = false := by have := HCC.out; simp; omega
        have e8 : ((s[k].toNat : Int) == 8) = false := by have := HCC.out; simp; omega
        have e12 : ((s[k].toNat : Int) == 12) = false := by have := HCC.out; simp; omega
        have e10 : ((s[k].toNat : Int) == 10) = false := by have := HCC.out; simp; omega
        have e13 : ((s[k].toNat : Int) == 13) = false := by have := HCC.out; simp; omega
        have e9 : ((s[k].toNat : Int) == 9) = false := by have := HCC.out; simp; omega
        have e32 : ¬ (s[k].toNat : Int) < 32 := by have := HCC.out; omega
        go_wp2_with (at_builtin; refine wpList_append_own _ rfl (.tmp 31) (.tmp 33) 24 rfl B 5 i0 (.int .u8 0) 1 1 Tryd.underlying24 hi hz0 hz1 hz2 rfl (by decide) u0 _ _ rfl (HD.out.alloc _) ⟨wr.heap.size, 0, none⟩ 1 1 [.int .u8 ((s[k].toNat : Nat) : Int)] rfl rfl (news_new (by simp)) (fun u hu => by simp at hu; rcases hu with rfl <;> rfl) (by unfold maxLen; omega) (by omega) (by simp; omega) ?_; intro v2 w2 hown2 hgrow2 _)
        have hb2 : Fr B w w2 := (hbr.alloc (by omega) _).grown (HD.out.alloc _) hgrow2 (by simp; omega)
        clear hgrow2
        go_roundw
        case rel => exact ⟨k + 1, by go_num, by omega, own_step hown2 hlt (by rw [esc_raw HCC.out.1 HCC.out.2.1 HCC.out.2.2]; rfl) rfl, hb2⟩
        case measure => simp [intOf]; omega
    · obtain rfl : k = s.size := by omega
      have htk : s.data.toList.take s.size = s.data.toList := List.take_of_length_le (by simp)
      rw [htk] at HD hle hcl
      have hl2 : s.data.toList.length = s.size := by simp
      rw [hl2] at hle
      clear htk hl2
      go_wp2_with (at_builtin; refine wpList_append_own _ rfl (.tmp 67) (.tmp 68) 24 rfl B 5 i0 (.int .u8 0) 1 1 Tryd.underlying24 hi hz0 hz1 hz2 rfl (by decide) u0 _ _ rfl (HD.out.alloc _) ⟨wr.heap.size, 0, none⟩ 1 1 [.int .u8 34] rfl rfl (news_new (by simp)) (cells_one [34]) (by unfold maxLen; omega) (by omega) (by simp; omega) ?_; intro v2 w2 hown2 hgrow2 _)
      have hb2 : Fr B w w2 := (hbr.alloc (by omega) _).grown (HD.out.alloc _) hgrow2 (by simp; omega)
      go_ret
      refine ⟨v2, rfl, ?_, hb2⟩
      have e2 : n + (nameT s.data.toList).length = n + (34 :: escS s.data.toList).length + 1 := by simp [nameT]; omega
      have e3 : xs ++ byteCells (nameT s.data.toList) = (xs ++ byteCells (34 :: escS s.data.toList)) ++ [.int .u8 34] := by simp [nameT, byteCells]
      rw [e2, e3]
      exact hown2
end Go.Proofs.Qxb6619220aDoor
