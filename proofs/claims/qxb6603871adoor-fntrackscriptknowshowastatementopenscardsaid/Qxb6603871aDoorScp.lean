import Derived.Test.Qxb6603871aDoorMvl
set_option linter.unusedVariables false
set_option linter.unusedSimpArgs false
namespace Go.Proofs.Qxb6603871aDoor
open Go.RowKit Go.PlainAid

/-- A fresh statement of this kind. -/
def L0 (kind : Int) : Lx := ⟨⟨#[]⟩, 0, kind, 0, ⟨#[]⟩, false, false, 0, false, false⟩
/-- .. and the first k words tracked. -/
def Lk (kind : Int) (W : Nat → ByteArray) : Nat → Lx
  | 0 => L0 kind
  | k + 1 => trackF (Lk kind W k) (W k)
/-- One of the words two to eight (of the first k) makes a body. -/
def bodyN (W : Nat → ByteArray) : Nat → Bool
  | 0 => false
  | k + 1 => bodyN W k || (decide (1 ≤ k) && decide (k ≤ 7) && bodyW (W k))
/-- ATOMIC follows BEGIN among the first k words. -/
def odN (W : Nat → ByteArray) : Nat → Bool
  | 0 => false
  | k + 1 => odN W k || (decide (1 ≤ k) && kw (W k) kATOMIC && kw (W (k - 1)) kBEGIN)
/-- How many of the words two to k are ATOMIC or CASE. -/
def opN (W : Nat → ByteArray) : Nat → Nat
  | 0 => 0
  | k + 1 => opN W k + (if 1 ≤ k ∧ (kw (W k) kATOMIC || kw (W k) kCASE) = true then 1 else 0)
theorem opN_le (W : Nat → ByteArray) : ∀ k, opN W k ≤ k
  | 0 => Nat.le_refl _
  | k + 1 => by have := opN_le W k; unfold opN; split <;> omega
theorem bodyN_8 (W : Nat → ByteArray) : ∀ k, 8 ≤ k → bodyN W k = bodyN W 8
  | 0, h => by omega
  | k + 1, h => by
    by_cases e : k + 1 = 8
    · rw [e]
    · have ih := bodyN_8 W k (by omega)
      show (bodyN W k || (decide (1 ≤ k) && decide (k ≤ 7) && bodyW (W k))) = _
      rw [ih, decide_eq_false (show ¬ k ≤ 7 by omega)]
      simp
theorem wrap_small (z : Int) (h : -9223372036854775808 ≤ z) (h2 : z ≤ 9223372036854775807) : wrap64 z = z := by
  unfold wrap64; omega
/-- A word is not both CREATE and BEGIN. -/
theorem kw_head (x t : ByteArray) (h0 : 0 < t.size) (h1 : bt t 0 ≠ 75) (h2 : bt t 0 ≠ 83) (h : kw x t = true) : bt x 0 = bt t 0 ∨ bt x 0 = bt t 0 + 32 := by
  unfold kw at h
  rw [kwS_step h0] at h
  split at h
  · rename_i e; exact e.2
  · rw [if_neg (by omega), if_neg (by omega)] at h; cases h
theorem create_begin (x : ByteArray) (h : kw x kCREATE = true) : kw x kBEGIN = false := by
  cases hb : kw x kBEGIN
  · rfl
  · have e1 := kw_head x kCREATE (by decide) (by decide) (by decide) h
    have e2 := kw_head x kBEGIN (by decide) (by decide) (by decide) hb
    have b1 : bt kCREATE 0 = 67 := by decide
    have b2 : bt kBEGIN 0 = 66 := by decide
    omega

structure LkOk (kind : Int) (W : Nat → ByteArray) (k : Nat) (L : Lx) : Prop where
  sql : L.sql = ⟨#[]⟩
  i : L.i = 0
  kd : L.kind = kind
  ended : L.ended = false
  n : L.n = k
  prev : L.prev = if k = 0 then ⟨#[]⟩ else W (k - 1)
  cr : L.cr = (decide (0 < k) && kw (W 0) kCREATE)
  be : L.be = (decide (0 < k) && kw (W 0) kBEGIN)
  body : L.body = (decide (kind = 3) && (if L.cr = true then bodyN W k else (L.be && decide (2 ≤ k) && kw (W 1) kNOT)))
  dep0 : (kind = 2 ∧ L.cr = true) ∨ L.depth = 0
  dep1 : 0 ≤ L.depth ∧ L.depth ≤ opN W k
  dep2 : odN W k = false → L.depth = 0
theorem Lk_ok (kind : Int) (W : Nat → ByteArray) : ∀ k, k ≤ 65536 → LkOk kind W k (Lk kind W k)
  | 0, _ => ⟨rfl, rfl, rfl, rfl, rfl, rfl, rfl, rfl, by simp [Lk, L0], .inr rfl, ⟨Int.le_refl _, Int.le_refl _⟩, fun _ => rfl⟩
  | k + 1, hk => by
    have ih := Lk_ok kind W k (by omega)
    show LkOk kind W (k + 1) (trackF (Lk kind W k) (W k))
    generalize Lk kind W k = L at ih
    obtain ⟨i0, i1, i2, i3, i4, i5, i6, i7, i8, i9, i10, i11⟩ := ih
    have hn : wrap64 (L.n + 1) = k + 1 := by rw [i4]; exact wrap_small _ (by omega) (by omega)
    have hop := opN_le W k
    have od : odN W (k + 1) = (odN W k || (decide (1 ≤ k) && kw (W k) kATOMIC && kw (W (k - 1)) kBEGIN)) := rfl
    have op : opN W (k + 1) = opN W k + (if 1 ≤ k ∧ (kw (W k) kATOMIC || kw (W k) kCASE) = true then 1 else 0) := rfl
    have bo : bodyN W (k + 1) = (bodyN W k || (decide (1 ≤ k) && decide (k ≤ 7) && bodyW (W k))) := rfl
    by_cases h0 : k = 0
    · subst h0
      unfold trackF
      simp only
      rw [hn, if_pos (by omega)]
      refine ⟨i0, i1, i2, i3, by simp, by simp, by simp, by simp, ?_, .inr ?_, ?_, fun _ => ?_⟩
      · have hb : L.body = false := by
          rw [i8]
          simp at i6 i7
          simp [i6, i7]
        simp only [hb, bo]
        simp [bodyN]
      · rcases i9 with ⟨_, h⟩ | h
        · simp [i6] at h
        · exact h
      · have : opN W 0 = 0 := rfl
        simp only
        omega
      · exact i11 rfl
    · have d1 : decide (1 ≤ k) = true := decide_eq_true (by omega)
      have d2 : decide (0 < k) = true := decide_eq_true (by omega)
      have d3 : decide (0 < k + 1) = true := decide_eq_true (by omega)
      rw [d1] at od bo
      rw [d2] at i6 i7
      simp only [Bool.true_and] at od bo i6 i7
      rw [if_neg h0] at i5
      unfold trackF
      simp only
      rw [hn, if_neg (by omega), i2]
      have hcr : L.cr = (decide (0 < k + 1) && kw (W 0) kCREATE) := by rw [d3, Bool.true_and]; exact i6
      have hbe : L.be = (decide (0 < k + 1) && kw (W 0) kBEGIN) := by rw [d3, Bool.true_and]; exact i7
      by_cases hA : kind = 2 ∧ L.cr = true
      · rw [if_pos hA]
        have hbody : L.body = false := by rw [i8, decide_eq_false (by omega)]; rfl
        have h3 : decide (kind = 3) = false := decide_eq_false (by omega)
        split
        · rename_i hU
          have hd1 : wrap64 (L.depth + 1) = L.depth + 1 := wrap_small _ (by omega) (by omega)
          refine ⟨i0, i1, rfl, i3, by simp, by simp, hcr, hbe, ?_, .inl hA, ?_, ?_⟩
          · simp only [hbody, h3, Bool.false_and]
          · simp only [hd1]
            have : opN W (k + 1) = opN W k + 1 := by
              rw [op, if_pos]
              refine ⟨by omega, ?_⟩
              simp only [Bool.or_eq_true, Bool.and_eq_true] at hU ⊢
              rcases hU with h | h
              · exact .inl h.1
              · exact .inr h.2
            omega
          · intro ho
            exfalso
            rw [od] at ho
            simp only [Bool.or_eq_false_iff] at ho
            have hz := i11 ho.1
            rw [i5, hz] at hU
            simp only [Bool.or_eq_true] at hU
            rcases hU with h | h
            · rw [ho.2] at h; cases h
            · simp at h
        · rename_i hU
          have hopm : opN W k ≤ opN W (k + 1) := by rw [op]; omega
          have hod : odN W (k + 1) = false → odN W k = false := by
            rw [od]; intro h; simp only [Bool.or_eq_false_iff] at h; exact h.1
          split
          · rename_i hE
            simp only [Bool.and_eq_true, decide_eq_true_eq] at hE
            have hd1 : wrap64 (L.depth - 1) = L.depth - 1 := wrap_small _ (by omega) (by omega)
            refine ⟨i0, i1, rfl, i3, by simp, by simp, hcr, hbe, ?_, .inl hA, ?_, ?_⟩
            · simp only [hbody, h3, Bool.false_and]
            · simp only [hd1]; omega
            · intro ho
              have := i11 (hod ho)
              omega
          · refine ⟨i0, i1, rfl, i3, by simp, by simp, hcr, hbe, ?_, .inl hA, ?_, fun ho => i11 (hod ho)⟩
            · simp only [hbody, h3, Bool.false_and]
            · simp only; omega
      · rw [if_neg hA]
        have hd0 : L.depth = 0 := i9.resolve_left hA
        have hopm : 0 ≤ L.depth ∧ L.depth ≤ opN W (k + 1) := by omega
        by_cases hB : kind = 3 ∧ L.cr = true ∧ ((k : Int) + 1) ≤ 8
        · rw [if_pos hB]
          refine ⟨i0, i1, rfl, i3, by simp, by simp, hcr, hbe, ?_, .inr hd0, hopm, fun _ => hd0⟩
          simp only
          rw [i8, bo, hB.2.1, decide_eq_true hB.1, decide_eq_true (show k ≤ 7 by omega)]
          simp
        · rw [if_neg hB]
          by_cases hC : kind = 3 ∧ L.be = true ∧ ((k : Int) + 1) = 2
          · rw [if_pos hC]
            obtain rfl : k = 1 := by omega
            have hcf : L.cr = false := by
              cases hcc : L.cr
              · rfl
              · exact absurd ⟨hC.1, hcc, by omega⟩ hB
            refine ⟨i0, i1, rfl, i3, by simp, by simp, hcr, hbe, ?_, .inr hd0, hopm, fun _ => hd0⟩
            simp only
            rw [hcf, hC.2.1, decide_eq_true hC.1]
            simp
          · rw [if_neg hC]
            refine ⟨i0, i1, rfl, i3, by simp, by simp, hcr, hbe, ?_, .inr hd0, hopm, fun _ => hd0⟩
            simp only
            by_cases hk3 : kind = 3
            · rw [i8, decide_eq_true hk3]
              simp only [Bool.true_and]
              by_cases hcc : L.cr = true
              · rw [if_pos hcc, if_pos hcc, bo]
                have : ¬ k ≤ 7 := fun h => hB ⟨hk3, hcc, by omega⟩
                rw [decide_eq_false this]
                simp
              · rw [if_neg hcc, if_neg hcc]
                by_cases hbb : L.be = true
                · have : ¬ (k : Int) + 1 = 2 := fun h => hC ⟨hk3, hbb, h⟩
                  rw [decide_eq_true (show 2 ≤ k by omega), decide_eq_true (show 2 ≤ k + 1 by omega)]
                · have hbf : L.be = false := by simpa using hbb
                  rw [hbf]; simp
            · rw [i8, decide_eq_false hk3]; simp
end Go.Proofs.Qxb6603871aDoor
