import Derived.Test.Qxb6603394aDoorWildp
set_option linter.unusedVariables false
set_option linter.unusedSimpArgs false
namespace Go.Proofs.Qxb6603394aDoor
open Go.RowKit Go.PlainAid
theorem T_none {G : Gl} (hG : G.Ok) {i j : Nat} (h : i < G.n) (h2 : G.P i ≠ 42) (hs : Gl.stp G i j = none) : Gl.T G i j = false := by
  rw [Gl.T_tok hG h h2, hs]
section
variable {p s : ByteArray} {b : Bool} {i j : Nat}
theorem stp_past (hj : s.size ≤ j) : Gl.stp (gl p s b) i j = none := by
  unfold Gl.stp; rw [if_pos (show (gl p s b).m ≤ j from hj)]
theorem stp_q (h : bt p i = 63) (hj : j < s.size) (hq : ¬ (b = true ∧ bt s j = 47)) : Gl.stp (gl p s b) i j = some (i + 1) := by
  unfold Gl.stp; rw [if_neg (show ¬ (gl p s b).m ≤ j from Nat.not_le.2 hj), if_pos (show (gl p s b).P i = 63 from h)]; exact if_neg hq
theorem stp_q_no (h : bt p i = 63) (hb : b = true) (hq : bt s j = 47) : Gl.stp (gl p s b) i j = none := by
  unfold Gl.stp; split
  · rfl
  · rw [if_pos (show (gl p s b).P i = 63 from h), if_pos ⟨hb, hq⟩]
theorem stp_set (h : bt p i = 91) (hj : j < s.size) {x : Bool × Int × Bool} (hx : ms (p.extract i p.size) (bt s j) = x) (h1 : x.2.2 = true) (h2 : x.1 = true) (hq : ¬ (b = true ∧ bt s j = 47)) : Gl.stp (gl p s b) i j = some (i + x.2.1.toNat) := by
  subst hx
  unfold Gl.stp
  rw [if_neg (show ¬ (gl p s b).m ≤ j from Nat.not_le.2 hj), if_neg (show ¬ (gl p s b).P i = 63 from fun e => by have : bt p i = 63 := e; omega), if_pos (show (gl p s b).P i = 91 from h), if_pos ⟨h1, h2, hq⟩]
  rfl
theorem stp_set_no (h : bt p i = 91) {x : Bool × Int × Bool} (hx : ms (p.extract i p.size) (bt s j) = x) (hn : x.1 = false ∨ (b = true ∧ bt s j = 47)) : Gl.stp (gl p s b) i j = none := by
  subst hx
  unfold Gl.stp
  split
  · rfl
  · rw [if_neg (show ¬ (gl p s b).P i = 63 from fun e => by have : bt p i = 63 := e; omega), if_pos (show (gl p s b).P i = 91 from h), if_neg]
    rintro ⟨_, h2, h3⟩
    rcases hn with hn | hn
    · have h4 : (ms (p.extract i p.size) (bt s j)).1 = true := h2
      rw [hn] at h4; cases h4
    · exact h3 hn
theorem stp_esc (h : bt p i = 92) (hj : j < s.size) (h1 : i + 1 < p.size) (hq : bt s j = bt p (i + 1)) : Gl.stp (gl p s b) i j = some (i + 2) := by
  unfold Gl.stp
  rw [if_neg (show ¬ (gl p s b).m ≤ j from Nat.not_le.2 hj), if_neg (show ¬ (gl p s b).P i = 63 from fun e => by have : bt p i = 63 := e; omega), if_neg (show ¬ (gl p s b).P i = 91 from fun e => by have : bt p i = 91 := e; omega), if_pos (show (gl p s b).P i = 92 from h), if_pos ⟨h1, hq⟩]
theorem stp_esc_no (h : bt p i = 92) (hn : ¬ (i + 1 < p.size ∧ bt s j = bt p (i + 1))) : Gl.stp (gl p s b) i j = none := by
  unfold Gl.stp
  split
  · rfl
  · rw [if_neg (show ¬ (gl p s b).P i = 63 from fun e => by have : bt p i = 63 := e; omega), if_neg (show ¬ (gl p s b).P i = 91 from fun e => by have : bt p i = 91 := e; omega), if_pos (show (gl p s b).P i = 92 from h)]; exact if_neg hn
theorem stp_lit (h1 : bt p i ≠ 63) (h2 : bt p i ≠ 91) (h3 : bt p i ≠ 92) (hj : j < s.size) (hq : bt s j = bt p i) : Gl.stp (gl p s b) i j = some (i + 1) := by
  unfold Gl.stp
  rw [if_neg (show ¬ (gl p s b).m ≤ j from Nat.not_le.2 hj), if_neg (show ¬ (gl p s b).P i = 63 from h1), if_neg (show ¬ (gl p s b).P i = 91 from h2), if_neg (show ¬ (gl p s b).P i = 92 from h3), if_pos (show (gl p s b).Q j = (gl p s b).P i from hq)]
theorem stp_lit_no (h1 : bt p i ≠ 63) (h2 : bt p i ≠ 91) (h3 : bt p i ≠ 92) (hq : bt s j ≠ bt p i) : Gl.stp (gl p s b) i j = none := by
  unfold Gl.stp
  split
  · rfl
  · rw [if_neg (show ¬ (gl p s b).P i = 63 from h1), if_neg (show ¬ (gl p s b).P i = 91 from h2), if_neg (show ¬ (gl p s b).P i = 92 from h3), if_neg (show ¬ (gl p s b).Q j = (gl p s b).P i from hq)]
end

end Go.Proofs.Qxb6603394aDoor
