import Derived.PlainAid
import Derived.Laws.RangeAny
set_option linter.unusedVariables false
set_option linter.unusedSimpArgs false
namespace Go.Proofs.Qxb6603871aDoor
open Go.RowKit Go.PlainAid

theorem eq_of_bt {s t : ByteArray} (h : s.size = t.size) (hb : ∀ j, j < t.size → bt s j = bt t j) : s = t := by
  apply ByteArray.ext
  apply Array.ext
  · exact h
  · intro i h1 h2
    have := hb i h2
    unfold bt at this
    rw [dif_pos (show i < s.size from h1), dif_pos (show i < t.size from h2)] at this
    exact UInt8.toNat_inj.1 (by exact_mod_cast this)
theorem ret_bool {a b : Bool} (h : a = b) : Ending.returned (.bool a) = .returned (.bool b) := by rw [h]
theorem mkHid {p : Prop} (h : p) : Hid p := h
theorem size_ext (q : ByteArray) (a : Nat) (h : a ≤ q.size) : (q.extract a q.size).size = q.size - a := by simp [ByteArray.size_extract]
theorem bt_extract (q : ByteArray) (a b i : Nat) (h : a + i < b) (hb : b ≤ q.size) : bt (q.extract a b) i = bt q (a + i) := by
  unfold bt
  have hs : (q.extract a b).size = b - a := by simp [ByteArray.size_extract]; omega
  rw [dif_pos (by omega), dif_pos (by omega)]
  rw [ByteArray.getElem_extract]
theorem bt_ext_all (q : ByteArray) (a i : Nat) (ha : a ≤ q.size) : bt (q.extract a q.size) i = bt q (a + i) := by
  by_cases h : a + i < q.size
  · exact bt_extract q a q.size i h (Nat.le_refl _)
  · rw [bt_end _ (by rw [size_ext q a ha]; omega), bt_end _ (by omega)]
theorem ext_ext (q : ByteArray) (a i : Nat) (ha : a ≤ q.size) : (q.extract a q.size).extract i (q.extract a q.size).size = q.extract (i + a) q.size := by
  by_cases h : i + a ≤ q.size
  · have h1 := size_ext q a ha
    have h2 := size_ext q (i + a) h
    have h3 := size_ext (q.extract a q.size) i (by omega)
    apply eq_of_bt
    · omega
    · intro k hk
      rw [bt_ext_all _ _ _ (by omega), bt_ext_all _ _ _ ha, bt_ext_all _ _ _ h]
      congr 1; omega
  · have h1 := size_ext q a ha
    apply eq_of_bt
    · simp [ByteArray.size_extract]; omega
    · intro k hk
      simp [ByteArray.size_extract] at hk; omega
theorem bt_lt {s : ByteArray} {k : Nat} (h : bt s k ≠ 0) : k < s.size := by
  by_cases e : k < s.size
  · exact e
  · exact absurd (bt_end s (by omega)) h

/-- Is what stands in s from p on the keyword t from k on, in any case (Kelvin's sign for K, the long s for S)? -/
def kwI (s t : ByteArray) : Nat → Nat → Nat → Bool
  | 0, _, p => decide (p = s.size)
  | f + 1, k, p =>
    if p < s.size ∧ (bt s p = bt t k ∨ bt s p = bt t k + 32) then kwI s t f (k + 1) (p + 1)
    else if bt t k = 75 ∧ bt s p = 226 ∧ bt s (p + 1) = 132 ∧ bt s (p + 2) = 170 then kwI s t f (k + 1) (p + 3)
    else if bt t k = 83 ∧ bt s p = 197 ∧ bt s (p + 1) = 191 then kwI s t f (k + 1) (p + 2)
    else false
def kwS (s t : ByteArray) (k p : Nat) : Bool := kwI s t (t.size - k) k p
def kw (s t : ByteArray) : Bool := kwS s t 0 0
theorem kwS_end {s t : ByteArray} {k p : Nat} (h : t.size ≤ k) : kwS s t k p = decide (p = s.size) := by
  unfold kwS; rw [show t.size - k = 0 by omega]; rfl
theorem kwS_step {s t : ByteArray} {k p : Nat} (h : k < t.size) : kwS s t k p =
    if p < s.size ∧ (bt s p = bt t k ∨ bt s p = bt t k + 32) then kwS s t (k + 1) (p + 1)
    else if bt t k = 75 ∧ bt s p = 226 ∧ bt s (p + 1) = 132 ∧ bt s (p + 2) = 170 then kwS s t (k + 1) (p + 3)
    else if bt t k = 83 ∧ bt s p = 197 ∧ bt s (p + 1) = 191 then kwS s t (k + 1) (p + 2)
    else false := by
  unfold kwS
  rw [show t.size - k = (t.size - (k + 1)) + 1 by omega]
  rfl
section
variable {s t : ByteArray} {k p : Nat}
theorem kwS_yes (h : k < t.size) (hp : p < s.size) (he : bt s p = bt t k ∨ bt s p = bt t k + 32) : kwS s t k p = kwS s t (k + 1) (p + 1) := by
  rw [kwS_step h, if_pos ⟨hp, he⟩]
theorem kwS_past (h : k < t.size) (hp : s.size ≤ p) : kwS s t k p = false := by
  have e : bt s p = 0 := bt_end s hp
  rw [kwS_step h, if_neg (by omega), if_neg (by omega), if_neg (by omega)]
theorem kwS_no (h : k < t.size) (hp : bt s p < 128) (h1 : bt s p ≠ bt t k) (h2 : bt s p ≠ bt t k + 32) : kwS s t k p = false := by
  rw [kwS_step h, if_neg (by omega), if_neg (by omega), if_neg (by omega)]
theorem kwS_K (h : k < t.size) (hk : bt t k = 75) (h1 : bt s p = 226) (h2 : bt s (p + 1) = 132) (h3 : bt s (p + 2) = 170) : kwS s t k p = kwS s t (k + 1) (p + 3) := by
  rw [kwS_step h, if_neg (by omega), if_pos ⟨hk, h1, h2, h3⟩]
theorem kwS_S (h : k < t.size) (hk : bt t k = 83) (h1 : bt s p = 197) (h2 : bt s (p + 1) = 191) : kwS s t k p = kwS s t (k + 1) (p + 2) := by
  rw [kwS_step h, if_neg (by omega), if_neg (by omega), if_pos ⟨hk, h1, h2⟩]
theorem kwS_high (h : k < t.size) (hb : 65 ≤ bt t k ∧ bt t k ≤ 90) (hp : 128 ≤ bt s p) (hK : ¬ (bt t k = 75 ∧ bt s p = 226 ∧ bt s (p + 1) = 132 ∧ bt s (p + 2) = 170)) (hS : ¬ (bt t k = 83 ∧ bt s p = 197 ∧ bt s (p + 1) = 191)) : kwS s t k p = false := by
  rw [kwS_step h, if_neg (by omega), if_neg hK, if_neg hS]
end

/-! ### The rune at a place -/
theorem get_bt' (s : ByteArray) (i : Nat) (h : i < s.size) : ((s.get! i).toNat : Int) = bt s i := by
  unfold bt; rw [dif_pos h]
  have : s.get! i = s[i] := by simp [ByteArray.get!, getElem!_pos, h]; rfl
  rw [this]
/-- The decoder over numbers: c1, c2, c3 say whether a byte that goes on stands there. -/
def decN (x0 x1 x2 x3 : Nat) (c1 c2 c3 : Bool) : Nat × Nat :=
  if x0 < 128 then (x0, 1)
  else if x0 / 32 == 6 && c1 then (if (x0 % 32) * 64 + x1 % 64 ≥ 128 then ((x0 % 32) * 64 + x1 % 64, 2) else (65533, 1))
  else if x0 / 16 == 14 && c1 && c2 then (if (x0 % 16) * 4096 + (x1 % 64) * 64 + x2 % 64 ≥ 2048 && Utf8.valid ((x0 % 16) * 4096 + (x1 % 64) * 64 + x2 % 64 : Nat) then ((x0 % 16) * 4096 + (x1 % 64) * 64 + x2 % 64, 3) else (65533, 1))
  else if x0 / 8 == 30 && c1 && c2 && c3 then (if (x0 % 8) * 262144 + (x1 % 64) * 4096 + (x2 % 64) * 64 + x3 % 64 ≥ 65536 && Utf8.valid ((x0 % 8) * 262144 + (x1 % 64) * 4096 + (x2 % 64) * 64 + x3 % 64 : Nat) then ((x0 % 8) * 262144 + (x1 % 64) * 4096 + (x2 % 64) * 64 + x3 % 64, 4) else (65533, 1))
  else (65533, 1)
theorem decode_decN (s : ByteArray) (p : Nat) : Utf8.decode s p = decN (s.get! p).toNat (s.get! (p + 1)).toNat (s.get! (p + 2)).toNat (s.get! (p + 3)).toNat
    (decide (p + 1 < s.size) && (s.get! (p + 1)).toNat / 64 == 2) (decide (p + 2 < s.size) && (s.get! (p + 2)).toNat / 64 == 2) (decide (p + 3 < s.size) && (s.get! (p + 3)).toNat / 64 == 2) := rfl
theorem decN_spec (x0 x1 x2 x3 : Nat) (c1 c2 c3 : Bool) (h0 : 128 ≤ x0) (h0' : x0 < 256) (h1 : x1 < 256) (h2 : x2 < 256) (k1 : c1 = true → x1 / 64 = 2) (k2 : c2 = true → x2 / 64 = 2) :
    128 ≤ (decN x0 x1 x2 x3 c1 c2 c3).1 ∧ (decN x0 x1 x2 x3 c1 c2 c3).1 ≤ 2097151 ∧ 1 ≤ (decN x0 x1 x2 x3 c1 c2 c3).2 ∧
    ((decN x0 x1 x2 x3 c1 c2 c3).2 = 1 ∨ ((decN x0 x1 x2 x3 c1 c2 c3).2 = 2 ∧ c1 = true) ∨ ((decN x0 x1 x2 x3 c1 c2 c3).2 = 3 ∧ c2 = true) ∨ ((decN x0 x1 x2 x3 c1 c2 c3).2 = 4 ∧ c3 = true)) ∧
    ((decN x0 x1 x2 x3 c1 c2 c3).1 = 8490 → (decN x0 x1 x2 x3 c1 c2 c3).2 = 3 ∧ x0 = 226 ∧ x1 = 132 ∧ x2 = 170 ∧ c1 = true ∧ c2 = true) ∧
    ((decN x0 x1 x2 x3 c1 c2 c3).1 = 383 → (decN x0 x1 x2 x3 c1 c2 c3).2 = 2 ∧ x0 = 197 ∧ x1 = 191 ∧ c1 = true) := by
  unfold decN
  rw [if_neg (by omega)]
  split
  · rename_i h
    simp only [Bool.and_eq_true, beq_iff_eq] at h
    have := k1 h.2
    split
    · exact ⟨by omega, by simp only; omega, by simp only; omega, .inr (.inl ⟨rfl, h.2⟩), fun e => by simp only at e; omega, fun e => by simp only at e; exact ⟨rfl, by omega, by omega, h.2⟩⟩
    · exact ⟨by simp only; omega, by simp only; omega, by simp only; omega, .inl rfl, fun e => by simp only at e; omega, fun e => by simp only at e; omega⟩
  · split
    · rename_i h
      simp only [Bool.and_eq_true, beq_iff_eq] at h
      have := k1 h.1.2
      have := k2 h.2
      split
      · rename_i h5
        simp only [Bool.and_eq_true, decide_eq_true_eq] at h5
        exact ⟨by simp only; omega, by simp only; omega, by simp only; omega, .inr (.inr (.inl ⟨rfl, h.2⟩)), fun e => by simp only at e; exact ⟨rfl, by omega, by omega, by omega, h.1.2, h.2⟩, fun e => by simp only at e; omega⟩
      · exact ⟨by simp only; omega, by simp only; omega, by simp only; omega, .inl rfl, fun e => by simp only at e; omega, fun e => by simp only at e; omega⟩
    · split
      · rename_i h
        simp only [Bool.and_eq_true, beq_iff_eq] at h
        split
        · rename_i h5
          simp only [Bool.and_eq_true, decide_eq_true_eq] at h5
          exact ⟨by simp only; omega, by simp only; omega, by simp only; omega, .inr (.inr (.inr ⟨rfl, h.2⟩)), fun e => by simp only at e; omega, fun e => by simp only at e; omega⟩
        · exact ⟨by simp only; omega, by simp only; omega, by simp only; omega, .inl rfl, fun e => by simp only at e; omega, fun e => by simp only at e; omega⟩
      · exact ⟨by simp only; omega, by simp only; omega, by simp only; omega, .inl rfl, fun e => by simp only at e; omega, fun e => by simp only at e; omega⟩
theorem decN_K (x3 : Nat) (c3 : Bool) : decN 226 132 170 x3 true true c3 = (8490, 3) := by unfold decN; rfl
theorem decN_S (x2 x3 : Nat) (c2 c3 : Bool) : decN 197 191 x2 x3 true c2 c3 = (383, 2) := by unfold decN; rfl

/-- The rune from 128 on: which bytes it stands for, where it is one of the two that fold onto a letter; its width. -/
theorem decode_spec (s : ByteArray) (p : Nat) (h : p < s.size) (hb : 128 ≤ bt s p) :
    128 ≤ (Utf8.decode s p).1 ∧ (Utf8.decode s p).1 ≤ 2097151 ∧ 1 ≤ (Utf8.decode s p).2 ∧ p + (Utf8.decode s p).2 ≤ s.size ∧
    ((Utf8.decode s p).1 = 8490 → (Utf8.decode s p).2 = 3 ∧ bt s p = 226 ∧ bt s (p + 1) = 132 ∧ bt s (p + 2) = 170) ∧
    ((Utf8.decode s p).1 = 383 → (Utf8.decode s p).2 = 2 ∧ bt s p = 197 ∧ bt s (p + 1) = 191) ∧
    (bt s p = 226 → bt s (p + 1) = 132 → bt s (p + 2) = 170 → (Utf8.decode s p).1 = 8490) ∧
    (bt s p = 197 → bt s (p + 1) = 191 → (Utf8.decode s p).1 = 383) := by
  have e0 := get_bt' s p h
  have r0 := bt_le s p
  have b0 := (s.get! p).toNat_lt
  have b1 := (s.get! (p + 1)).toNat_lt
  have b2 := (s.get! (p + 2)).toNat_lt
  rw [decode_decN]
  have key := decN_spec (s.get! p).toNat (s.get! (p + 1)).toNat (s.get! (p + 2)).toNat (s.get! (p + 3)).toNat
    (decide (p + 1 < s.size) && (s.get! (p + 1)).toNat / 64 == 2) (decide (p + 2 < s.size) && (s.get! (p + 2)).toNat / 64 == 2) (decide (p + 3 < s.size) && (s.get! (p + 3)).toNat / 64 == 2)
    (by omega) b0 b1 b2 (fun e => by simp only [Bool.and_eq_true, beq_iff_eq] at e; exact e.2) (fun e => by simp only [Bool.and_eq_true, beq_iff_eq] at e; exact e.2)
  obtain ⟨k1, k2, k3, k4, k5, k6⟩ := key
  refine ⟨k1, k2, k3, ?_, ?_, ?_, ?_, ?_⟩
  · rcases k4 with e | ⟨e, f⟩ | ⟨e, f⟩ | ⟨e, f⟩
    · omega
    · simp only [Bool.and_eq_true, decide_eq_true_eq] at f; omega
    · simp only [Bool.and_eq_true, decide_eq_true_eq] at f; omega
    · simp only [Bool.and_eq_true, decide_eq_true_eq] at f; omega
  · intro e
    obtain ⟨a1, a2, a3, a4, a5, a6⟩ := k5 e
    simp only [Bool.and_eq_true, decide_eq_true_eq] at a5 a6
    have e1 := get_bt' s (p + 1) a5.1
    have e2 := get_bt' s (p + 2) a6.1
    exact ⟨a1, by omega, by omega, by omega⟩
  · intro e
    obtain ⟨a1, a2, a3, a4⟩ := k6 e
    simp only [Bool.and_eq_true, decide_eq_true_eq] at a4
    have e1 := get_bt' s (p + 1) a4.1
    exact ⟨a1, by omega, by omega⟩
  · intro g0 g1 g2
    have l1 : p + 1 < s.size := bt_lt (by omega)
    have l2 : p + 2 < s.size := bt_lt (by omega)
    have e1 := get_bt' s (p + 1) l1
    have e2 := get_bt' s (p + 2) l2
    rw [show (s.get! p).toNat = 226 by omega, show (s.get! (p + 1)).toNat = 132 by omega, show (s.get! (p + 2)).toNat = 170 by omega, decide_eq_true l1, decide_eq_true l2]
    exact congrArg Prod.fst (decN_K _ _)
  · intro g0 g1
    have l1 : p + 1 < s.size := bt_lt (by omega)
    have e1 := get_bt' s (p + 1) l1
    rw [show (s.get! p).toNat = 197 by omega, show (s.get! (p + 1)).toNat = 191 by omega, decide_eq_true l1]
    exact congrArg Prod.fst (decN_S _ _ _ _)
end Go.Proofs.Qxb6603871aDoor
