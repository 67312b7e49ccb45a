/-
  Plain mathematics: the canonical text of a clock, as lists of bytes; no Go in sight.
-/
import Derived.Lib.ItoaLen
import Derived.Lib.UnsafeStr
namespace Go.Proofs.Qxb6619220aDoor.Pl
open Go

def hexD (x : UInt8) : UInt8 := if x < 10 then 48 + x else 87 + x

/-- One byte of a name, escaped. -/
def escB (c : UInt8) : List UInt8 :=
  if c = 34 then [92, 34] else if c = 92 then [92, 92] else if c = 8 then [92, 98] else if c = 12 then [92, 102] else if c = 10 then [92, 110]
  else if c = 13 then [92, 114] else if c = 9 then [92, 116] else if c < 32 then [92, 117, 48, 48, hexD (c / 16), hexD (c % 16)] else [c]

def escS : List UInt8 → List UInt8
  | [] => []
  | c :: l => escB c ++ escS l

theorem escS_append (l m : List UInt8) : escS (l ++ m) = escS l ++ escS m := by
  induction l with
  | nil => rfl
  | cons c l ih => simp [escS, ih]

theorem escS_snoc (l : List UInt8) (c : UInt8) : escS (l ++ [c]) = escS l ++ escB c := by simp [escS_append, escS]

theorem escB_len (c : UInt8) : 1 ≤ (escB c).length ∧ (escB c).length ≤ 6 := by
  unfold escB
  repeat' split
  all_goals simp

theorem escS_len (l : List UInt8) : (escS l).length ≤ 6 * l.length := by
  induction l with
  | nil => simp [escS]
  | cons c l ih =>
    have := escB_len c
    simp [escS]; omega

def nameT (l : List UInt8) : List UInt8 := 34 :: (escS l ++ [34])
def entT (l : List UInt8) (u : Nat) : List UInt8 := nameT l ++ 58 :: Lib.decDigits u
def comma (k : Nat) : List UInt8 := if k = 0 then [] else [44]

def entsTo (S : Nat → ByteArray) (C : Nat → Nat) : Nat → List UInt8
  | 0 => []
  | k + 1 => entsTo S C k ++ (comma k ++ entT (S k).data.toList (C k))

def textT (S : Nat → ByteArray) (C : Nat → Nat) (n : Nat) : List UInt8 := 123 :: (entsTo S C n ++ [125])

theorem decDigits_le (u : Nat) (h : u < 18446744073709551616) : (Lib.decDigits u).length ≤ 20 := by
  rw [Lib.decDigits_length]; exact Lib.nDigits_le20 u h

theorem entT_len (l : List UInt8) (u : Nat) (h : u < 18446744073709551616) : (entT l u).length ≤ 6 * l.length + 23 := by
  have h1 := escS_len l
  have h2 := decDigits_le u h
  simp [entT, nameT]; omega

theorem entsTo_len (S : Nat → ByteArray) (C : Nat → Nat) (M : Nat) : ∀ k, (∀ i, i < k → (S i).size ≤ M ∧ C i < 18446744073709551616) → (entsTo S C k).length ≤ k * (6 * M + 24)
  | 0, _ => by simp [entsTo]
  | k + 1, h => by
    have ih := entsTo_len S C M k (fun i hi => h i (by omega))
    have h1 := h k (by omega)
    have h2 := entT_len (S k).data.toList (C k) h1.2
    have h3 : (comma k).length ≤ 1 := by unfold comma; split <;> simp
    have h4 : (S k).data.toList.length = (S k).size := by simp
    simp only [entsTo, List.length_append]
    rw [Nat.add_mul]
    omega

/-- The text of a prefix, a comma, the text of the rest. -/
theorem ents_split (S : Nat → ByteArray) (C : Nat → Nat) (k : Nat) (hk : 0 < k) : ∀ m, 0 < m → entsTo S C (k + m) = entsTo S C k ++ 44 :: entsTo (fun i => S (k + i)) (fun i => C (k + i)) m
  | 0, h => by omega
  | 1, _ => by
    simp [entsTo, comma, Nat.pos_iff_ne_zero.1 hk]
  | m + 2, _ => by
    have ih := ents_split S C k hk (m + 1) (by omega)
    have e : comma (k + (m + 1)) = [44] := by unfold comma; rw [if_neg (by omega)]
    have e2 : comma (m + 1) = [44] := by unfold comma; rw [if_neg (by omega)]
    rw [show k + (m + 2) = (k + (m + 1)) + 1 by omega, entsTo, ih, e]
    have e3 : entsTo (fun i => S (k + i)) (fun i => C (k + i)) (m + 1 + 1) = entsTo (fun i => S (k + i)) (fun i => C (k + i)) (m + 1) ++ (comma (m + 1) ++ entT (S (k + (m + 1))).data.toList (C (k + (m + 1)))) := rfl
    rw [e3, e2]
    simp

/-! ### where a list lies in another -/
def At (T : List UInt8) (p : Nat) (L : List UInt8) : Prop := p + L.length ≤ T.length ∧ ∀ j, j < L.length → T.getD (p + j) 0 = L.getD j 0

theorem At.mk (A L R : List UInt8) : At (A ++ (L ++ R)) A.length L := by
  refine ⟨by simp, fun j hj => ?_⟩
  simp only [List.getD_eq_getElem?_getD]
  rw [List.getElem?_append_right (by omega), Nat.add_sub_cancel_left, List.getElem?_append_left hj]

theorem At.left {T : List UInt8} {p : Nat} {L M : List UInt8} (h : At T p (L ++ M)) : At T p L := by
  refine ⟨by have := h.1; simp at this; omega, fun j hj => ?_⟩
  rw [h.2 j (by simp; omega)]
  simp only [List.getD_eq_getElem?_getD]
  rw [List.getElem?_append_left hj]

theorem At.right {T : List UInt8} {p : Nat} {L M : List UInt8} (h : At T p (L ++ M)) : At T (p + L.length) M := by
  refine ⟨by have := h.1; simp at this; omega, fun j hj => ?_⟩
  have h2 := h.2 (L.length + j) (by simp; omega)
  rw [Nat.add_assoc, h2]
  simp only [List.getD_eq_getElem?_getD]
  rw [List.getElem?_append_right (by omega), Nat.add_sub_cancel_left]

theorem At.hd {T : List UInt8} {p : Nat} {c : UInt8} {L : List UInt8} (h : At T p (c :: L)) : p < T.length ∧ T.getD p 0 = c := by
  have h1 := h.1
  have h2 := h.2 0 (by simp)
  simp at h1 h2
  exact ⟨by omega, by simpa using h2⟩

theorem At.tl {T : List UInt8} {p : Nat} {c : UInt8} {L : List UInt8} (h : At T p (c :: L)) : At T (p + 1) L := by
  have : At T p ([c] ++ L) := h
  simpa using this.right

theorem At.whole (T : List UInt8) : At T 0 T := ⟨by simp, fun j _ => by simp⟩

theorem At.at {T : List UInt8} {p : Nat} {L : List UInt8} (h : At T p L) (j : Nat) (hj : j < L.length) : T.getD (p + j) 0 = L.getD j 0 := h.2 j hj

/-- The k-th byte of a name, where it lies. -/
theorem At.esc {T : List UInt8} {p : Nat} {l : List UInt8} (h : At T p (nameT l)) (k : Nat) (hk : k < l.length) : At T (p + 1 + (escS (l.take k)).length) (escB l[k]) := by
  have h1 : At T (p + 1) (escS l ++ [34]) := h.tl
  have e : escS l = escS (l.take k) ++ (escB l[k] ++ escS (l.drop (k + 1))) := by
    conv => lhs; rw [← List.take_append_drop k l]
    rw [escS_append, List.drop_eq_getElem_cons hk]
    rfl
  rw [e] at h1
  exact h1.left.right.left

theorem At.quote {T : List UInt8} {p : Nat} {l : List UInt8} (h : At T p (nameT l)) : At T (p + 1 + (escS l).length) [34] := by
  have h1 : At T (p + 1) (escS l ++ [34]) := h.tl
  exact h1.right

theorem nameT_len (l : List UInt8) : (nameT l).length = (escS l).length + 2 := by simp [nameT]

theorem textT_at (S : Nat → ByteArray) (C : Nat → Nat) (n k : Nat) (hk : k < n) : At (textT S C n) (1 + (entsTo S C k).length) (comma k ++ entT (S k).data.toList (C k)) ∧
    ∃ c : UInt8, (c = 44 ∨ c = 125) ∧ At (textT S C n) (1 + (entsTo S C (k + 1)).length) [c] := by
  have pre : ∀ m, k + 1 + m = n → ∃ R, entsTo S C n = entsTo S C (k + 1) ++ R ∧ (R = [] ∨ ∃ R', R = 44 :: R') := by
    intro m hm
    subst hm
    cases m with
    | zero => exact ⟨[], by simp, .inl rfl⟩
    | succ m => exact ⟨_, ents_split S C (k + 1) (by omega) (m + 1) (by omega), .inr ⟨_, rfl⟩⟩
  obtain ⟨R, hR, hR2⟩ := pre (n - (k + 1)) (by omega)
  have e1 : textT S C n = (123 :: entsTo S C k) ++ ((comma k ++ entT (S k).data.toList (C k)) ++ (R ++ [125])) := by
    unfold textT; rw [hR]; simp [entsTo]
  have e2 : textT S C n = (123 :: entsTo S C (k + 1)) ++ (R ++ [125]) := by
    unfold textT; rw [hR]; simp
  constructor
  · have := At.mk (123 :: entsTo S C k) (comma k ++ entT (S k).data.toList (C k)) (R ++ [125])
    rw [← e1] at this
    simpa [Nat.add_comm] using this
  · rcases hR2 with rfl | ⟨R', rfl⟩
    · refine ⟨125, .inr rfl, ?_⟩
      have := At.mk (123 :: entsTo S C (k + 1)) [125] []
      rw [List.append_nil, show ([125] : List UInt8) = [] ++ [125] from rfl, ← e2] at this
      simpa [Nat.add_comm] using this
    · refine ⟨44, .inl rfl, ?_⟩
      have := At.mk (123 :: entsTo S C (k + 1)) [44] (R' ++ [125])
      rw [show ([44] : List UInt8) ++ (R' ++ [125]) = 44 :: R' ++ [125] from rfl, ← e2] at this
      simpa [Nat.add_comm] using this

theorem textT_end (S : Nat → ByteArray) (C : Nat → Nat) (n : Nat) : (textT S C n).length = (entsTo S C n).length + 2 ∧ (textT S C n).getD (1 + (entsTo S C n).length) 0 = 125 := by
  refine ⟨by simp [textT], ?_⟩
  simp only [textT, List.getD_eq_getElem?_getD, Nat.add_comm 1, List.getElem?_cons_succ]
  rw [List.getElem?_append_right (by omega)]
  simp

/-! ### the numerals -/
def digVal (l : List UInt8) : Nat := l.foldl (fun v c => v * 10 + (c.toNat - 48)) 0

theorem digVal_snoc (l : List UInt8) (c : UInt8) : digVal (l ++ [c]) = digVal l * 10 + (c.toNat - 48) := by simp [digVal]

theorem dig_byte (d : Nat) (h : d < 10) : (UInt8.ofNat (48 + d)).toNat = 48 + d := by
  rw [UInt8.toNat_ofNat']; omega

theorem dec_digits : ∀ u : Nat, digVal (Lib.decDigits u) = u ∧ (∀ c ∈ Lib.decDigits u, 48 ≤ c.toNat ∧ c.toNat ≤ 57) ∧ (0 < u → ∃ c r, Lib.decDigits u = c :: r ∧ c.toNat ≠ 48) := by
  intro u
  induction u using Nat.strongRecOn with
  | _ u ih =>
    by_cases h : u < 10
    · rw [Lib.decDigits_one h]
      have e := dig_byte u h
      refine ⟨?_, ?_, ?_⟩
      · show 0 * 10 + ((UInt8.ofNat (48 + u)).toNat - 48) = u
        omega
      · intro c hc
        rw [List.mem_singleton] at hc
        subst hc
        omega
      · intro hu
        exact ⟨_, [], rfl, by omega⟩
    · obtain ⟨i1, i2, i3⟩ := ih (u / 10) (by omega)
      have e := dig_byte (u % 10) (by omega)
      have hd : Lib.decDigits u = Lib.decDigits (u / 10) ++ [UInt8.ofNat (48 + u % 10)] := by rw [Lib.decDigits, dif_neg h]
      rw [hd]
      refine ⟨?_, ?_, ?_⟩
      · rw [digVal_snoc, i1, e]; omega
      · intro c hc
        rw [List.mem_append] at hc
        rcases hc with hc | hc
        · exact i2 c hc
        · rw [List.mem_singleton] at hc
          subst hc
          omega
      · intro _
        obtain ⟨c, r, hc, hn⟩ := i3 (by omega)
        exact ⟨c, r ++ [UInt8.ofNat (48 + u % 10)], by rw [hc]; rfl, hn⟩

theorem fold_ge : ∀ (l : List UInt8) (v : Nat), v ≤ l.foldl (fun v c => v * 10 + (c.toNat - 48)) v
  | [], v => Nat.le_refl _
  | c :: l, v => by
    have := fold_ge l (v * 10 + (c.toNat - 48))
    simp only [List.foldl_cons]
    omega

theorem digVal_take_le (l : List UInt8) (k : Nat) : digVal (l.take k) ≤ digVal l := by
  have h := fold_ge (l.drop k) (digVal (l.take k))
  have e : digVal l = (l.drop k).foldl (fun v c => v * 10 + (c.toNat - 48)) (digVal (l.take k)) := by
    unfold digVal
    rw [← List.foldl_append, List.take_append_drop]
  rw [e]
  exact h

end Go.Proofs.Qxb6619220aDoor.Pl
