import Derived.Test.Qxb6603394aDoorCell
import Derived.Deep.DeepCutAuto
set_option linter.unusedVariables false
set_option linter.unusedSimpArgs false
namespace Go.Proofs.Qxb6603394aDoor
open Go.RowKit Go.PlainAid

/-- Is there a '/' from x on behind which V holds? -/
def anyF (Q : Nat → Int) (V : Nat → Bool) (m x : Nat) : Bool := (List.range (m - x)).any fun d => decide (Q (x + d) = 47) && V (x + d + 1)
theorem anyF_end {Q : Nat → Int} {V : Nat → Bool} {m x : Nat} (h : m ≤ x) : anyF Q V m x = false := by
  unfold anyF; rw [show m - x = 0 by omega]; rfl
theorem anyF_step {Q : Nat → Int} {V : Nat → Bool} {m x : Nat} (h : x < m) : anyF Q V m x = ((decide (Q x = 47) && V (x + 1)) || anyF Q V m (x + 1)) := by
  apply eq_of_true_iff
  unfold anyF
  rw [Bool.or_eq_true, List.any_eq_true, List.any_eq_true]
  constructor
  · rintro ⟨d, h1, h2⟩
    cases d with
    | zero => exact .inl h2
    | succ d => exact .inr ⟨d, List.mem_range.2 (by have := List.mem_range.1 h1; omega), by rw [show x + 1 + d = x + (d + 1) by omega]; exact h2⟩
  · rintro (h1 | ⟨d, h1, h2⟩)
    · exact ⟨0, List.mem_range.2 (by omega), h1⟩
    · exact ⟨d + 1, List.mem_range.2 (by have := List.mem_range.1 h1; omega), by rw [show x + (d + 1) = x + 1 + d by omega]; exact h2⟩
theorem isGlob_eq2 (p s : ByteArray) (i d : Nat) : Gl.isGlob (gl p s true) i (i + d) = (decide (1 < d) && (decide (i = 0) || decide (bt p (i - 1) = 47)) && (decide (i + d = p.size) || decide (bt p (i + d) = 47))) := by
  unfold Gl.isGlob gl
  simp only [Bool.true_and, Nat.add_sub_cancel_left]

set_option maxRecDepth 100000 in
set_option maxHeartbeats 20000000 in
theorem cell_star (p s : ByteArray) (b : Bool) (db : Nat) (rb : Nat → Nat) (TB : Nat → Nat → Bool) (i j : Nat) (w : World) (hp : p.size ≤ 256) (hs : s.size ≤ 256) (hj : j ≤ s.size)
    (hD : DpOk w db rb p.size s.size TB i j) (HB : Hid (∀ k x, TB k x = Gl.T (gl p s b) k x)) (R : Bool) (HR : Hid (Gl.T (gl p s b) i j = R)) (hin : i < p.size) (h42 : bt p i = 42) :
    Calls Tryd.prog 15 #[.string p, .string s, .bool b, .slice (some ⟨db, 0, none⟩) (p.size + 1) (p.size + 1), .int .i64 i, .int .i64 j] w fun e w' => e = .returned (.bool R) ∧ ∃ n, w' = w.drewN n := by
  have hb1 := get_bt p
  have hb2 := get_bt s
  have hG := gl_ok p s b
  obtain ⟨k, hk⟩ : ∃ k, Gl.re (gl p s b) i = k := ⟨_, rfl⟩
  have hgt : i < k := by rw [← hk]; exact Gl.re_gt _ hin h42
  obtain ⟨_, hle0, hst0, hend0⟩ := Gl.re_spec (gl p s b) (i := i) (Nat.le_of_lt hin)
  have hle : k ≤ p.size := by rw [← hk]; exact hle0
  have HS : Hid (∀ x, i ≤ x → x < k → bt p x = 42) := by rw [← hk]; exact hst0
  have HN : Hid (k = p.size ∨ bt p k ≠ 42) := by rw [← hk]; exact hend0
  clear hle0 hst0 hend0
  obtain ⟨d, rfl⟩ : ∃ d, k = i + d := ⟨k - i, by omega⟩
  have HK : Hid (Gl.re (gl p s b) i = i + d) := hk
  clear hk
  have hd1 : 1 ≤ d := by omega
  have h42' : ((bt p i == 42) = true) := by simp [h42]
  go_enter Tryd.func15, Tryd.ntmps15
  go_wp2
  go_loop [14] (fun vk => ∃ k : Nat, i ≤ k ∧ k ≤ i + d ∧ vk = .int .i64 k) (fun vk => p.size - (intOf vk).toNat)
  case atStart => exact ⟨i, Nat.le_refl _, by omega, rfl⟩
  case round =>
    obtain ⟨k, hk1, hk2, rfl⟩ := hrel
    by_cases hlt : k < i + d
    · have hc : (bt p k == 42) = true := by simp [HS.out k hk1 hlt]
      as_aux_lemma =>
        go_wp2
        go_round
        case rel => exact ⟨k + 1, by omega, by omega, by go_num⟩
        case measure => simp [intOf]; omega
    have hke : k = i + d := by omega
    subst hke
    clear hk1 hk2 hlt HS
    have hkd : (((i : Int) + (d : Int)) - (i : Int)) = (d : Int) := by omega
    by_cases hn : i + d = p.size
    · have hge : p.size ≤ i + d := by omega
      have hn1 : (((i : Int) + (d : Int)) == (p.size : Int)) = true := by simp; omega
      go_upto_region 9 with fail
      go_cut [14, 76] (fun v14 v w' => v14 = .int .i64 ((i : Int) + (d : Int)) ∧ v = .bool (Gl.isGlob (gl p s b) i (i + d)) ∧ w' = w)
      case first =>
        clear hD HB HR HK hG
        cases b
        · have HV : Hid (Gl.isGlob (gl p s false) i (i + d) = false) := rfl
          clear hn
          as_aux_lemma =>
            go_wp2
            go_meet
            case rel => exact ⟨by go_num, by rw [HV.out], rfl⟩
        · by_cases g1 : 1 < d
          · by_cases g2 : i = 0
            · have g5 : ((i : Int) == 0) = true := by simp; omega
              have HV : Hid (Gl.isGlob (gl p s true) i (i + d) = true) := by show _ = _; rw [isGlob_eq2, decide_eq_true g1, decide_eq_true g2, decide_eq_true hn]; rfl
              clear g2 hn
              as_aux_lemma =>
                go_wp2
                go_meet
                case rel => exact ⟨by go_num, by rw [HV.out], rfl⟩
            · obtain ⟨i', rfl⟩ : ∃ i', i = i' + 1 := ⟨i - 1, by omega⟩
              have hn2 : (((i' : Int) + 1 + (d : Int)) == (p.size : Int)) = true := by simp; omega
              by_cases g5 : bt p i' = 47
              · have g6 : (bt p i' == 47) = true := by simp [g5]
                have g5' : bt p (i' + 1 - 1) = 47 := g5
                have HV : Hid (Gl.isGlob (gl p s true) (i' + 1) (i' + 1 + d) = true) := by show _ = _; rw [isGlob_eq2, decide_eq_true g1, decide_eq_false g2, decide_eq_true g5', decide_eq_true hn]; rfl
                clear g2 hn g5 g5'
                as_aux_lemma =>
                  go_wp2
                  go_meet
                  case rel => exact ⟨by go_num, by rw [HV.out], rfl⟩
              · have g6 : (bt p i' == 47) = false := by simp [g5]
                have g5' : ¬ bt p (i' + 1 - 1) = 47 := g5
                have HV : Hid (Gl.isGlob (gl p s true) (i' + 1) (i' + 1 + d) = false) := by show _ = _; rw [isGlob_eq2, decide_eq_true g1, decide_eq_false g2, decide_eq_false g5']; rfl
                clear g2 hn g5 g5'
                as_aux_lemma =>
                  go_wp2
                  go_meet
                  case rel => exact ⟨by go_num, by rw [HV.out], rfl⟩
          · have HV : Hid (Gl.isGlob (gl p s true) i (i + d) = false) := by show _ = _; rw [isGlob_eq2, decide_eq_false g1]; rfl
            clear hn
            as_aux_lemma =>
              go_wp2
              go_meet
              case rel => exact ⟨by go_num, by rw [HV.out], rfl⟩
      case rest =>
        obtain ⟨rfl, rfl, rfl⟩ := hcut
        cases hg : Gl.isGlob (gl p s b) i (i + d) with
        | true =>
          have HF : Hid (true = R) := by show _ = _; rw [← HR.out, Gl.T_glob_end (G := gl p s b) hin h42 (by rw [HK.out]; exact hg) (by rw [HK.out]; exact hn)]
          clear hD HB HR HK hG hg hn
          as_aux_lemma =>
            go_wp2
            go_ret
            exact ⟨ret_bool HF.out, 0, rfl⟩
        | false =>
          have c1 := hD.row (i + d) (by omega) hle
          have c2 := hD.cell (i + d) j (.inl (by omega)) hle hj
          have HA : Hid (R = (TB (i + d) j || (decide (j < s.size) && !(b && decide (bt s j = 47)) && TB i (j + 1)))) := by
            show _ = _
            rw [← HR.out, Gl.T_star hG hin h42 (by rw [HK.out]; exact hg), HK.out, ← HB.out, ← HB.out]
            rfl
          cases hv : TB (i + d) j with
          | true =>
            have HF : Hid (true = R) := by show _ = _; rw [HA.out, hv]; rfl
            rw [hv] at c2
            clear hD HB HR HK hG hg hn hv HA
            as_aux_lemma =>
              go_wp2
              go_ret
              exact ⟨ret_bool HF.out, 0, rfl⟩
          | false =>
            rw [hv] at c2
            by_cases hjs : j < s.size
            · have c3 := hD.row i (Nat.le_refl _) (Nat.le_of_lt hin)
              have c4 := hD.cell i (j + 1) (.inr ⟨rfl, by omega⟩) (Nat.le_of_lt hin) hjs
              cases b
              · have HF : Hid (TB i (j + 1) = R) := by show _ = _; rw [HA.out, hv, decide_eq_true hjs]; rfl
                clear hD HB HR HK hG hg hn hv HA
                as_aux_lemma =>
                  go_wp2
                  go_ret
                  exact ⟨ret_bool HF.out, 0, rfl⟩
              · by_cases h47 : bt s j = 47
                · have HF : Hid (false = R) := by show _ = _; rw [HA.out, hv, decide_eq_true hjs, decide_eq_true h47]; rfl
                  have g1 : (bt s j == 47) = true := by simp [h47]
                  clear hD HB HR HK hG hg hn hv HA h47
                  as_aux_lemma =>
                    go_wp2
                    go_ret
                    exact ⟨ret_bool HF.out, 0, rfl⟩
                · have HF : Hid (TB i (j + 1) = R) := by show _ = _; rw [HA.out, hv, decide_eq_true hjs, decide_eq_false h47]; rfl
                  have g1 : (bt s j == 47) = false := by simp [h47]
                  clear hD HB HR HK hG hg hn hv HA h47
                  as_aux_lemma =>
                    go_wp2
                    go_ret
                    exact ⟨ret_bool HF.out, 0, rfl⟩
            · have HF : Hid (false = R) := by show _ = _; rw [HA.out, hv, decide_eq_false hjs]; rfl
              clear hD HB HR HK hG hg hn hv HA
              as_aux_lemma =>
                go_wp2
                go_ret
                exact ⟨ret_bool HF.out, 0, rfl⟩
    · have hlt2 : i + d < p.size := by omega
      have hn1 : (((i : Int) + (d : Int)) == (p.size : Int)) = false := by simp; omega
      have hx42 : (bt p (i + d) == 42) = false := by
        rcases HN.out with h | h
        · exact absurd h hn
        · simp [h]
      go_upto_region 9 with fail
      go_cut [14, 76] (fun v14 v w' => v14 = .int .i64 ((i : Int) + (d : Int)) ∧ v = .bool (Gl.isGlob (gl p s b) i (i + d)) ∧ w' = w)
      case first =>
        clear hD HB HR HK hG
        cases b
        · have HV : Hid (Gl.isGlob (gl p s false) i (i + d) = false) := rfl
          clear hn
          as_aux_lemma =>
            go_wp2
            go_meet
            case rel => exact ⟨by go_num, by rw [HV.out], rfl⟩
        · by_cases g1 : 1 < d
          · by_cases g2 : i = 0
            · have g5 : ((i : Int) == 0) = true := by simp; omega
              by_cases g7 : bt p (i + d) = 47
              · have g9 : (bt p (i + d) == 47) = true := by simp [g7]
                have HV : Hid (Gl.isGlob (gl p s true) i (i + d) = true) := by show _ = _; rw [isGlob_eq2, decide_eq_true g1, decide_eq_true g2, decide_eq_false hn, decide_eq_true g7]; rfl
                clear g2 hn g7
                as_aux_lemma =>
                  go_wp2
                  go_meet
                  case rel => exact ⟨by go_num, by rw [HV.out], rfl⟩
              · have g9 : (bt p (i + d) == 47) = false := by simp [g7]
                have HV : Hid (Gl.isGlob (gl p s true) i (i + d) = false) := by show _ = _; rw [isGlob_eq2, decide_eq_true g1, decide_eq_true g2, decide_eq_false hn, decide_eq_false g7]; rfl
                clear g2 hn g7
                as_aux_lemma =>
                  go_wp2
                  go_meet
                  case rel => exact ⟨by go_num, by rw [HV.out], rfl⟩
            · obtain ⟨i', rfl⟩ : ∃ i', i = i' + 1 := ⟨i - 1, by omega⟩
              have hn2 : (((i' : Int) + 1 + (d : Int)) == (p.size : Int)) = false := by simp; omega
              by_cases g5 : bt p i' = 47
              · have g6 : (bt p i' == 47) = true := by simp [g5]
                have g5' : bt p (i' + 1 - 1) = 47 := g5
                by_cases g7 : bt p (i' + 1 + d) = 47
                · have g9 : (bt p (i' + 1 + d) == 47) = true := by simp [g7]
                  have HV : Hid (Gl.isGlob (gl p s true) (i' + 1) (i' + 1 + d) = true) := by show _ = _; rw [isGlob_eq2, decide_eq_true g1, decide_eq_false g2, decide_eq_true g5', decide_eq_false hn, decide_eq_true g7]; rfl
                  clear g2 hn g5 g5' g7
                  as_aux_lemma =>
                    go_wp2
                    go_meet
                    case rel => exact ⟨by go_num, by rw [HV.out], rfl⟩
                · have g9 : (bt p (i' + 1 + d) == 47) = false := by simp [g7]
                  have HV : Hid (Gl.isGlob (gl p s true) (i' + 1) (i' + 1 + d) = false) := by show _ = _; rw [isGlob_eq2, decide_eq_true g1, decide_eq_false g2, decide_eq_true g5', decide_eq_false hn, decide_eq_false g7]; rfl
                  clear g2 hn g5 g5' g7
                  as_aux_lemma =>
                    go_wp2
                    go_meet
                    case rel => exact ⟨by go_num, by rw [HV.out], rfl⟩
              · have g6 : (bt p i' == 47) = false := by simp [g5]
                have g5' : ¬ bt p (i' + 1 - 1) = 47 := g5
                have HV : Hid (Gl.isGlob (gl p s true) (i' + 1) (i' + 1 + d) = false) := by show _ = _; rw [isGlob_eq2, decide_eq_true g1, decide_eq_false g2, decide_eq_false g5']; rfl
                clear g2 hn g5 g5'
                as_aux_lemma =>
                  go_wp2
                  go_meet
                  case rel => exact ⟨by go_num, by rw [HV.out], rfl⟩
          · have HV : Hid (Gl.isGlob (gl p s true) i (i + d) = false) := by show _ = _; rw [isGlob_eq2, decide_eq_false g1]; rfl
            clear hn
            as_aux_lemma =>
              go_wp2
              go_meet
              case rel => exact ⟨by go_num, by rw [HV.out], rfl⟩
      case rest =>
        obtain ⟨rfl, rfl, rfl⟩ := hcut
        cases hg : Gl.isGlob (gl p s b) i (i + d) with
        | true =>
          have c1 := hD.row (i + d + 1) (by omega) hlt2
          have c2 := hD.cell (i + d + 1) j (.inl (by omega)) hlt2 hj
          have HX := mkHid (fun (x : Nat) (hx : x ≤ s.size) => hD.cell (i + d + 1) x (.inl (by omega)) hlt2 hx)
          have HA : Hid (R = (TB (i + d + 1) j || anyF (bt s) (TB (i + d + 1)) s.size j)) := by
            show _ = _
            rw [← HR.out, Gl.T_glob hG hin h42 (by rw [HK.out]; exact hg) (by rw [HK.out]; exact hn), HK.out, ← HB.out]
            unfold anyF
            congr 2
            funext x
            rw [← HB.out]
            rfl
          clear hD HB HR HK hG hg hn
          cases hv : TB (i + d + 1) j with
          | true =>
            have HF : Hid (true = R) := by show _ = _; rw [HA.out, hv]; rfl
            rw [hv] at c2
            clear hv HA
            as_aux_lemma =>
              go_wp2
              go_ret
              exact ⟨ret_bool HF.out, 0, rfl⟩
          | false =>
            have HE : Hid (R = anyF (bt s) (TB (i + d + 1)) s.size j) := by show _ = _; rw [HA.out, hv]; rfl
            rw [hv] at c2
            clear hv HA
            as_aux_lemma =>
              go_wp2
              go_loop [16] (fun vx => ∃ x : Nat, x ≤ s.size ∧ vx = .int .i64 x ∧ Hid (R = anyF (bt s) (TB (i + d + 1)) s.size x)) (fun vx => s.size - (intOf vx).toNat)
              case atStart => exact ⟨j, hj, rfl, HE⟩
              case round =>
                clear HE c2
                obtain ⟨x, hx, rfl, HE⟩ := hrel
                by_cases hxs : x < s.size
                · by_cases h47 : bt s x = 47
                  · have c3 := HX.out (x + 1) hxs
                    have g1 : (bt s x == 47) = true := by simp [h47]
                    cases hv : TB (i + d + 1) (x + 1) with
                    | true =>
                      have HF : Hid (true = R) := by show _ = _; rw [HE.out, anyF_step hxs, hv, decide_eq_true h47]; rfl
                      rw [hv] at c3
                      clear hv h47 HE
                      go_wp2
                      go_ret
                      exact ⟨ret_bool HF.out, 0, rfl⟩
                    | false =>
                      have HF : Hid (R = anyF (bt s) (TB (i + d + 1)) s.size (x + 1)) := by show _ = _; rw [HE.out, anyF_step hxs, hv, decide_eq_true h47]; rfl
                      rw [hv] at c3
                      clear hv h47 HE
                      go_wp2
                      go_round
                      case rel => exact ⟨x + 1, hxs, by go_num, HF⟩
                      case measure => simp [intOf]; omega
                  · have HF : Hid (R = anyF (bt s) (TB (i + d + 1)) s.size (x + 1)) := by show _ = _; rw [HE.out, anyF_step hxs, decide_eq_false h47]; rfl
                    have g1 : (bt s x == 47) = false := by simp [h47]
                    clear h47 HE
                    go_wp2
                    go_round
                    case rel => exact ⟨x + 1, hxs, by go_num, HF⟩
                    case measure => simp [intOf]; omega
                · have HF : Hid (false = R) := by show _ = _; rw [HE.out, anyF_end (by omega)]
                  clear HE
                  go_wp2
                  go_ret
                  exact ⟨ret_bool HF.out, 0, rfl⟩
        | false =>
          have c1 := hD.row (i + d) (by omega) hle
          have c2 := hD.cell (i + d) j (.inl (by omega)) hle hj
          have HA : Hid (R = (TB (i + d) j || (decide (j < s.size) && !(b && decide (bt s j = 47)) && TB i (j + 1)))) := by
            show _ = _
            rw [← HR.out, Gl.T_star hG hin h42 (by rw [HK.out]; exact hg), HK.out, ← HB.out, ← HB.out]
            rfl
          cases hv : TB (i + d) j with
          | true =>
            have HF : Hid (true = R) := by show _ = _; rw [HA.out, hv]; rfl
            rw [hv] at c2
            clear hD HB HR HK hG hg hn hv HA
            as_aux_lemma =>
              go_wp2
              go_ret
              exact ⟨ret_bool HF.out, 0, rfl⟩
          | false =>
            rw [hv] at c2
            by_cases hjs : j < s.size
            · have c3 := hD.row i (Nat.le_refl _) (Nat.le_of_lt hin)
              have c4 := hD.cell i (j + 1) (.inr ⟨rfl, by omega⟩) (Nat.le_of_lt hin) hjs
              cases b
              · have HF : Hid (TB i (j + 1) = R) := by show _ = _; rw [HA.out, hv, decide_eq_true hjs]; rfl
                clear hD HB HR HK hG hg hn hv HA
                as_aux_lemma =>
                  go_wp2
                  go_ret
                  exact ⟨ret_bool HF.out, 0, rfl⟩
              · by_cases h47 : bt s j = 47
                · have HF : Hid (false = R) := by show _ = _; rw [HA.out, hv, decide_eq_true hjs, decide_eq_true h47]; rfl
                  have g1 : (bt s j == 47) = true := by simp [h47]
                  clear hD HB HR HK hG hg hn hv HA h47
                  as_aux_lemma =>
                    go_wp2
                    go_ret
                    exact ⟨ret_bool HF.out, 0, rfl⟩
                · have HF : Hid (TB i (j + 1) = R) := by show _ = _; rw [HA.out, hv, decide_eq_true hjs, decide_eq_false h47]; rfl
                  have g1 : (bt s j == 47) = false := by simp [h47]
                  clear hD HB HR HK hG hg hn hv HA h47
                  as_aux_lemma =>
                    go_wp2
                    go_ret
                    exact ⟨ret_bool HF.out, 0, rfl⟩
            · have HF : Hid (false = R) := by show _ = _; rw [HA.out, hv, decide_eq_false hjs]; rfl
              clear hD HB HR HK hG hg hn hv HA
              as_aux_lemma =>
                go_wp2
                go_ret
                exact ⟨ret_bool HF.out, 0, rfl⟩

/-- A CELL OF THE TABLE. -/
theorem cell_any (p s : ByteArray) (b : Bool) (db : Nat) (rb : Nat → Nat) (TB : Nat → Nat → Bool) (i j : Nat) (w : World) (hp : p.size ≤ 256) (hs : s.size ≤ 256) (hi : i ≤ p.size) (hj : j ≤ s.size)
    (hD : DpOk w db rb p.size s.size TB i j) (HB : Hid (∀ k x, TB k x = Gl.T (gl p s b) k x)) :
    Calls Tryd.prog 15 #[.string p, .string s, .bool b, .slice (some ⟨db, 0, none⟩) (p.size + 1) (p.size + 1), .int .i64 i, .int .i64 j] w fun e w' => e = .returned (.bool (TB i j)) ∧ ∃ n, w' = w.drewN n := by
  have HR : Hid (Gl.T (gl p s b) i j = TB i j) := (HB.out i j).symm
  by_cases hin : i < p.size
  · by_cases h42 : bt p i = 42
    · exact cell_star p s b db rb TB i j w hp hs hj hD HB _ HR hin h42
    · by_cases h63 : bt p i = 63
      · exact cell_q p s b db rb TB i j w hp hs hj hD HB _ HR hin h63
      · by_cases h91 : bt p i = 91
        · exact cell_set p s b db rb TB i j w hp hs hj hD HB _ HR hin h91
        · by_cases h92 : bt p i = 92
          · exact cell_esc p s b db rb TB i j w hp hs hj hD HB _ HR hin h92
          · exact cell_lit p s b db rb TB i j w hp hs hj hD HB _ HR hin h42 h63 h91 h92
  · exact cell_end p s b db rb TB i j w hp hs hj hD HB _ HR (by omega)
end Go.Proofs.Qxb6603394aDoor
