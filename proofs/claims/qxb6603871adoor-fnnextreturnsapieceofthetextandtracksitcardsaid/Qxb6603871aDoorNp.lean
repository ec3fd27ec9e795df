import Derived.Test.Qxb6603871aDoorWd
set_option linter.unusedVariables false
set_option linter.unusedSimpArgs false
namespace Go.Proofs.Qxb6603871aDoor
open Go.RowKit Go.PlainAid

/-- Where the reading stops: at a word's first byte, at a semicolon that ends (dz), at the end. -/
def fp (s : ByteArray) (dz : Bool) : Nat → Nat → Nat
  | 0, i => i
  | d + 1, i => if (wb (bt s i) || (bt s i == 59 && dz)) = true then i else fp s dz d (i + 1)
/-- Where the word ends. -/
def fq (s : ByteArray) : Nat → Nat → Nat
  | 0, j => j
  | d + 1, j => if wb (bt s j) = true then fq s d (j + 1) else j
theorem fp_stop (s : ByteArray) (dz : Bool) (i : Nat) (h : i < s.size) (hs : (wb (bt s i) || (bt s i == 59 && dz)) = true) : fp s dz (s.size - i) i = i := by
  rw [show s.size - i = (s.size - (i + 1)) + 1 by omega, fp, if_pos hs]
theorem fp_go (s : ByteArray) (dz : Bool) (i : Nat) (h : i < s.size) (hs : (wb (bt s i) || (bt s i == 59 && dz)) = false) : fp s dz (s.size - (i + 1)) (i + 1) = fp s dz (s.size - i) i := by
  rw [show s.size - i = (s.size - (i + 1)) + 1 by omega, fp, if_neg (by rw [hs]; decide)]
theorem fp_end (s : ByteArray) (dz : Bool) : fp s dz (s.size - s.size) s.size = s.size := by rw [Nat.sub_self]; rfl
theorem fq_stop (s : ByteArray) (i : Nat) (h : i < s.size) (hs : wb (bt s i) = false) : fq s (s.size - i) i = i := by
  rw [show s.size - i = (s.size - (i + 1)) + 1 by omega, fq, if_neg (by rw [hs]; decide)]
theorem fq_go (s : ByteArray) (i : Nat) (h : i < s.size) (hs : wb (bt s i) = true) : fq s (s.size - (i + 1)) (i + 1) = fq s (s.size - i) i := by
  rw [show s.size - i = (s.size - (i + 1)) + 1 by omega, fq, if_pos hs]
theorem fq_end (s : ByteArray) : fq s (s.size - s.size) s.size = s.size := by rw [Nat.sub_self]; rfl
/-- What the word's walk finds is fq, where no dollar stands. -/
theorem fq_is' (s : ByteArray) : ∀ d p, p + d ≤ s.size → (∀ k, p ≤ k → k < s.size → (bt s k == 36) = false) → (∀ k, p ≤ k → k < p + d → wd (bt s k) = true) → (p + d < s.size → wd (bt s (p + d)) = false) → fq s (s.size - p) p = p + d
  | 0, p, hj, hno, h1, h2 => by
    by_cases e : p < s.size
    · refine fq_stop s p e ?_
      have := h2 e
      unfold wd at this
      simp only [Bool.or_eq_false_iff] at this
      exact this.1
    · have : p = s.size := by omega
      subst this
      exact fq_end s
  | d + 1, p, hj, hno, h1, h2 => by
    have hw := h1 p (Nat.le_refl _) (by omega)
    unfold wd at hw
    rw [hno p (Nat.le_refl _) (by omega), Bool.or_false] at hw
    rw [← fq_go s p (by omega) hw]
    rw [fq_is' s d (p + 1) (by omega) (fun k a b => hno k (by omega) b) (fun k a b => h1 k (by omega) (by omega)) (by rw [show p + 1 + d = p + (d + 1) by omega]; exact h2)]
    omega
theorem fq_is (s : ByteArray) (p j : Nat) (hpj : p ≤ j) (hj : j ≤ s.size) (hno : ∀ k, p ≤ k → k < s.size → (bt s k == 36) = false) (h1 : ∀ k, p ≤ k → k < j → wd (bt s k) = true) (h2 : j < s.size → wd (bt s j) = false) : fq s (s.size - p) p = j := by
  obtain ⟨d, rfl⟩ : ∃ d, j = p + d := ⟨j - p, by omega⟩
  exact fq_is' s d p hj hno h1 h2
/-- No special byte from i on. -/
def Plain (s : ByteArray) (i : Nat) : Prop := ∀ k, i ≤ k → k < s.size → sb (bt s k) = false
theorem nosp {x : Int} (h : sb x = false) : (x == 39) = false ∧ (x == 34) = false ∧ (x == 96) = false ∧ (x == 64) = false ∧ (x == 45) = false ∧ (x == 35) = false ∧ (x == 47) = false ∧ (x == 36) = false := by
  unfold sb at h
  simp only [Bool.or_eq_false_iff] at h
  obtain ⟨⟨⟨⟨⟨⟨⟨a, b⟩, c⟩, d⟩, e⟩, f⟩, g⟩, h⟩ := h
  exact ⟨a, b, c, d, e, f, g, h⟩
/-- What next leaves and hands back at a plain text, the statement not ended. -/
def nxL (s : ByteArray) (L : Lx) (P : Nat) : Lx :=
  if P = s.size then { L with i := s.size, ended := true }
  else if (bt s P == 59) = true then { L with i := (P : Int) + 1, ended := true }
  else { trackF L (s.extract P (fq s (s.size - P) P)) with i := fq s (s.size - P) P }
def nxW (s : ByteArray) (P : Nat) : ByteArray :=
  if P = s.size then ⟨#[]⟩ else if (bt s P == 59) = true then ⟨#[]⟩ else s.extract P (fq s (s.size - P) P)
theorem trackF_i (L : Lx) (v : Int) (x : ByteArray) : trackF { L with i := v } x = { trackF L x with i := v } := by
  unfold trackF
  simp only
  split
  · rfl
  · split
    · split
      · rfl
      · split <;> rfl
    · split
      · rfl
      · split <;> rfl
end Go.Proofs.Qxb6603871aDoor
