import Derived.Test.Qxb6603394aDoorStar
import Derived.Test.Qxb6603394aDoorSet
import Derived.Test.Qxb6603394aDoorStp
set_option linter.unusedVariables false
set_option linter.unusedSimpArgs false
namespace Go.Proofs.Qxb6603394aDoor
open Go.RowKit Go.PlainAid

theorem glob_call (p s : ByteArray) (w : World) (i j k : Nat) (hp : p.size ≤ 256) (hs : s.size ≤ 256) (hi : i < p.size) (hj : j ≤ s.size) (h42 : bt p i = 42) (hk : Gl.re (gl p s true) i = k) (hg : Gl.isGlob (gl p s true) i k = true)
    (IH : Hid (∀ (p' s' : ByteArray) (w : World), p'.size < p.size → s'.size ≤ 256 → Calls Tryd.prog 14 #[.string p', .string s', .bool true] w fun e w' => e = .returned (.bool (W p' s' true)) ∧ ∃ n, w' = w.drewN n)) :
    Calls Tryd.prog 18 #[.string (p.extract k p.size), .string (s.extract j s.size)] w fun e w' => e = .returned (.bool (Gl.T (gl p s true) i j)) ∧ ∃ n, w' = w.drewN n := by
  have hgt : i < k := by rw [← hk]; exact Gl.re_gt _ hi h42
  have hle : k ≤ p.size := by rw [← hk]; exact (Gl.re_spec (gl p s true) (i := i) (Nat.le_of_lt hi)).2.1
  have e1 := size_ext p k hle
  have e2 := size_ext s j hj
  by_cases hn : k = p.size
  · rw [Gl.T_glob_end (G := gl p s true) hi h42 (by rw [hk]; exact hg) (by rw [hk]; exact hn)]
    exact glob_empty _ _ _ (by omega)
  · have h47 : bt p k = 47 := by
      unfold Gl.isGlob at hg
      simp only [Bool.and_eq_true, Bool.or_eq_true, decide_eq_true_eq] at hg
      rcases hg.2 with h | h
      · exact absurd h hn
      · exact h
    rw [Gl.T_glob (gl_ok p s true) hi h42 (by rw [hk]; exact hg) (by rw [hk]; exact hn), hk]
    refine glob_any _ _ _ (by omega) (by omega) (by omega) (fun x => Gl.T (gl p s true) (k + 1) (j + x)) ?_ _ ?_
    · intro x w hx
      have := IH.out (p.extract (1 + k) p.size) (s.extract (x + j) s.size) w (by rw [size_ext p _ (by omega)]; omega) (by rw [size_ext s _ (by omega)]; omega)
      rw [ext_ext p k 1 hle, ext_ext s j x hj]
      rw [W_rest p s (1 + k) (x + j) (by omega) (by omega) (by omega) (by rw [show 1 + k - 1 = k by omega]; exact h47)] at this
      rw [show k + 1 = 1 + k by omega, show j + x = x + j by omega]
      exact this
    · show gsR _ _ _ _ = _
      unfold gsR
      rw [e2, Nat.sub_zero]
      congr 2
      funext d
      show (decide (bt (s.extract j s.size) (0 + d) = 47) && Gl.T (gl p s true) (k + 1) (j + (0 + d + 1))) = _
      rw [bt_ext_all s j (0 + d) hj, show j + (0 + d) = j + d by omega, show j + (0 + d + 1) = j + d + 1 by omega]
      rfl

/-- Behind some draws. -/
def Dr (w w' : World) : Prop := ∃ n, w' = w.drewN n
theorem Dr.refl (w : World) : Dr w w := ⟨0, rfl⟩
theorem Dr.more {w w' : World} (h : Dr w w') (k : Nat) : Dr w (w'.drewN k) := by
  obtain ⟨n, rfl⟩ := h; exact ⟨n + k, World.drewN_drewN ..⟩
theorem isGlob_eq (p s : ByteArray) (i d : Nat) : Gl.isGlob (gl p s true) i (i + d) = (decide (1 < d) && (decide (i = 0) || decide (bt p (i - 1) = 47)) && (decide (i + d = p.size) || decide (bt p (i + d) = 47))) := by
  unfold Gl.isGlob gl
  simp only [Bool.true_and, Nat.add_sub_cancel_left]

set_option maxRecDepth 100000 in
set_option maxHeartbeats 20000000 in
theorem wild_step (p s : ByteArray) (b : Bool) (w : World) (hp : p.size ≤ 256) (hs : s.size ≤ 256)
    (IH : Hid (∀ (p' s' : ByteArray) (w : World), p'.size < p.size → s'.size ≤ 256 → Calls Tryd.prog 14 #[.string p', .string s', .bool true] w fun e w' => e = .returned (.bool (W p' s' true)) ∧ ∃ n, w' = w.drewN n)) :
    Calls Tryd.prog 14 #[.string p, .string s, .bool b] w fun e w' => e = .returned (.bool (W p s b)) ∧ ∃ n, w' = w.drewN n := by
  have hb1 := get_bt p
  have hb2 := get_bt s
  go_enter Tryd.func14, Tryd.ntmps14
  go_wp2
  go_loopg [7, 8, 9, 10] (((gl p s b).n + 1) * 1000000 + ((gl p s b).m - 0)) (fun g px sx st se wr => ∃ i j : Nat, i ≤ p.size ∧ j ≤ s.size ∧ px = .int .i64 i ∧ sx = .int .i64 j ∧ WInv (gl p s b) i j st se g ∧ Dr w wr)
  case atStart => exact ⟨0, 0, Nat.zero_le _, Nat.zero_le _, rfl, rfl, WInv.start _, Dr.refl _⟩
  case round =>
    obtain ⟨i, j, hi, hj, rfl, rfl, HI, HD⟩ := hrel
    by_cases hend : i = p.size ∧ j = s.size
    · obtain ⟨e1, e2⟩ := hend
      have HF : Hid (W p s b = true) := HI.fin (gl_ok p s b) e1 e2
      have e1' : ¬ i < p.size := by omega
      have e2' : ¬ j < s.size := by omega
      clear HI e1 e2
      as_aux_lemma =>
        go_wp2
        go_ret
        exact ⟨ret_bool HF.out.symm, (by first | exact HD | exact HD.more _)⟩
    have hne : i < p.size ∨ j < s.size := by omega
    clear hend
    by_cases hin : i < p.size
    · clear hne
      go_upto_if 29 with fail
      go_cut [9, 10] (fun v9 v10 w' => v9 = u9 ∧ v10 = u10 ∧ Dr w w' ∧ Gl.T (gl p s b) i j = false)
      case first =>
        by_cases h42 : bt p i = 42
        · obtain ⟨k, hk⟩ : ∃ k, Gl.re (gl p s b) i = k := ⟨_, rfl⟩
          have hgt : i < k := by rw [← hk]; exact Gl.re_gt _ hin h42
          have hle : k ≤ p.size := by rw [← hk]; exact (Gl.re_spec (gl p s b) (i := i) (Nat.le_of_lt hin)).2.1
          obtain ⟨d, rfl⟩ : ∃ d, k = i + d := ⟨k - i, by omega⟩
          have HK : Hid (Gl.re (gl p s b) i = i + d) := hk
          clear hk
          have hd1 : 1 ≤ d := by omega
          have z1 := size_ext p i hi
          have z2 := size_ext p (i + d) hle
          have HC : Hid (∀ w, Calls Tryd.prog 17 #[.string (p.extract i p.size), .string ⟨#[42]⟩] w fun e w' => e = .returned (.string (p.extract (i + d) p.size)) ∧ w' = w) := by
            intro w; have := c17 p s b i w hi; rw [HK.out] at this; exact this
          go_upto_region 10 with fail
          go_cut [12] (fun v w' => v = .int .i64 d ∧ Dr w w')
          case first =>
            as_aux_lemma =>
              go_quiet ((go_at_call 17; exact Calls.quiet_of_same (HC.out _)))
              go_wp2
              go_meet
              case rel => exact ⟨by go_num, HD.more _⟩
          case rest =>
            clear HD
            obtain ⟨rfl, HD⟩ := hcut
            clear HC z1
            go_upto_region 11 with fail
            go_cut [7, 12, 92] (fun v7 v12 v w' => v7 = .int .i64 i ∧ v12 = .int .i64 d ∧ v = .bool (Gl.isGlob (gl p s b) i (i + d)) ∧ w' = wc)
            case first =>
              clear HI HK HD
              cases b
              · as_aux_lemma =>
                  go_wp2
                  go_meet
                  case rel => exact ⟨rfl, rfl, rfl, rfl⟩
              · by_cases g1 : 1 < d
                · by_cases g2 : i = 0
                  · have g5 : ((i : Int) == 0) = true := by simp; omega
                    by_cases g3 : i + d = p.size
                    · have g4 : (((i : Int) + (d : Int)) == (p.size : Int)) = true := by simp; omega
                      have HV : Hid (Gl.isGlob (gl p s true) i (i + d) = true) := by show _ = _; rw [isGlob_eq, decide_eq_true g1, decide_eq_true g2, decide_eq_true g3]; rfl
                      clear g2 g3
                      as_aux_lemma =>
                        go_wp2
                        go_meet
                        case rel => exact ⟨by go_num, by go_num, by rw [HV.out], rfl⟩
                    · have g4 : (((i : Int) + (d : Int)) == (p.size : Int)) = false := by simp; omega
                      have g8 : i + d < p.size := by omega
                      by_cases g7 : bt p (i + d) = 47
                      · have g9 : (bt p (i + d) == 47) = true := by simp [g7]
                        have HV : Hid (Gl.isGlob (gl p s true) i (i + d) = true) := by show _ = _; rw [isGlob_eq, decide_eq_true g1, decide_eq_true g2, decide_eq_false g3, decide_eq_true g7]; rfl
                        clear g2 g3 g7
                        as_aux_lemma =>
                          go_wp2
                          go_meet
                          case rel => exact ⟨by go_num, by go_num, by rw [HV.out], rfl⟩
                      · have g9 : (bt p (i + d) == 47) = false := by simp [g7]
                        have HV : Hid (Gl.isGlob (gl p s true) i (i + d) = false) := by show _ = _; rw [isGlob_eq, decide_eq_true g1, decide_eq_true g2, decide_eq_false g3, decide_eq_false g7]; rfl
                        clear g2 g3 g7
                        as_aux_lemma =>
                          go_wp2
                          go_meet
                          case rel => exact ⟨by go_num, by go_num, by rw [HV.out], rfl⟩
                  · obtain ⟨i', rfl⟩ : ∃ i', i = i' + 1 := ⟨i - 1, by omega⟩
                    by_cases g5 : bt p i' = 47
                    · have g6 : (bt p i' == 47) = true := by simp [g5]
                      have g5' : bt p (i' + 1 - 1) = 47 := g5
                      by_cases g3 : i' + 1 + d = p.size
                      · have g4 : (((i' : Int) + 1 + (d : Int)) == (p.size : Int)) = true := by simp; omega
                        have HV : Hid (Gl.isGlob (gl p s true) (i' + 1) (i' + 1 + d) = true) := by show _ = _; rw [isGlob_eq, decide_eq_true g1, decide_eq_false g2, decide_eq_true g5', decide_eq_true g3]; rfl
                        clear g2 g3 g5 g5'
                        as_aux_lemma =>
                          go_wp2
                          go_meet
                          case rel => exact ⟨by go_num, by go_num, by rw [HV.out], rfl⟩
                      · have g4 : (((i' : Int) + 1 + (d : Int)) == (p.size : Int)) = false := by simp; omega
                        have g8 : i' + 1 + d < p.size := by omega
                        by_cases g7 : bt p (i' + 1 + d) = 47
                        · have g9 : (bt p (i' + 1 + d) == 47) = true := by simp [g7]
                          have HV : Hid (Gl.isGlob (gl p s true) (i' + 1) (i' + 1 + d) = true) := by show _ = _; rw [isGlob_eq, decide_eq_true g1, decide_eq_false g2, decide_eq_true g5', decide_eq_false g3, decide_eq_true g7]; rfl
                          clear g2 g3 g5 g5' g7
                          as_aux_lemma =>
                            go_wp2
                            go_meet
                            case rel => exact ⟨by go_num, by go_num, by rw [HV.out], rfl⟩
                        · have g9 : (bt p (i' + 1 + d) == 47) = false := by simp [g7]
                          have HV : Hid (Gl.isGlob (gl p s true) (i' + 1) (i' + 1 + d) = false) := by show _ = _; rw [isGlob_eq, decide_eq_true g1, decide_eq_false g2, decide_eq_true g5', decide_eq_false g3, decide_eq_false g7]; rfl
                          clear g2 g3 g5 g5' g7
                          as_aux_lemma =>
                            go_wp2
                            go_meet
                            case rel => exact ⟨by go_num, by go_num, by rw [HV.out], rfl⟩
                    · have g6 : (bt p i' == 47) = false := by simp [g5]
                      have g5' : ¬ bt p (i' + 1 - 1) = 47 := g5
                      have HV : Hid (Gl.isGlob (gl p s true) (i' + 1) (i' + 1 + d) = false) := by show _ = _; rw [isGlob_eq, decide_eq_true g1, decide_eq_false g2, decide_eq_false g5']; rfl
                      clear g2 g5 g5'
                      as_aux_lemma =>
                        go_wp2
                        go_meet
                        case rel => exact ⟨by go_num, by go_num, by rw [HV.out], rfl⟩
                · have HV : Hid (Gl.isGlob (gl p s true) i (i + d) = false) := by show _ = _; rw [isGlob_eq, decide_eq_false g1]; rfl
                  as_aux_lemma =>
                    go_wp2
                    go_meet
                    case rel => exact ⟨by go_num, by go_num, by rw [HV.out], rfl⟩
            case rest =>
              obtain ⟨rfl, rfl, rfl, rfl⟩ := hcut
              cases hg : Gl.isGlob (gl p s b) i (i + d) with
              | true =>
                have hb : b = true := by unfold Gl.isGlob at hg; simp only [Bool.and_eq_true] at hg; exact hg.1.1.1
                subst hb
                have hS : (gl p s true).P (i - 1) = 47 ∨ i = 0 := by
                  unfold Gl.isGlob at hg
                  simp only [Bool.and_eq_true] at hg
                  have := hg.1.2
                  simp only [gl, Bool.or_eq_true, decide_eq_true_eq] at this
                  rcases this with h | h
                  · exact .inr h
                  · exact .inl h
                have HF : Hid (W p s true = Gl.T (gl p s true) i j) := HI.glob (gl_ok p s true) (gl_set p s true) rfl hj hS
                have HC : Hid (∀ w, Calls Tryd.prog 18 #[.string (p.extract (i + d) p.size), .string (s.extract j s.size)] w fun e w' => e = .returned (.bool (Gl.T (gl p s true) i j)) ∧ ∃ n, w' = w.drewN n) := by
                  intro w; exact glob_call p s w i j (i + d) hp hs hin hj h42 HK.out hg IH
                clear hS hg HI HK
                as_aux_lemma =>
                  go_wp2
                  go_quiet ((go_at_call 18; exact Calls.quiet_of (HC.out _)))
                  go_wp2
                  go_ret
                  exact ⟨ret_bool HF.out.symm, (by first | exact HD | exact HD.more _)⟩
              | false =>
                obtain ⟨g', hg', HI'⟩ := HI.star (gl_ok p s b) hs hin hj h42 (by rw [HK.out]; exact hg)
                rw [HK.out] at HI'
                clear HI hg HK
                as_aux_lemma =>
                  go_wp2
                  go_roundg g'
                  case measure => exact hg'
                  case rel => exact ⟨i + d, j, by omega, by omega, by go_num, rfl, HI', (by first | exact HD | exact HD.more _)⟩
        · have hG := gl_ok p s b
          by_cases h63 : bt p i = 63
          · by_cases hjs : j < s.size
            · by_cases hq : b = true ∧ bt s j = 47
              · have HT : Gl.T (gl p s b) i j = false := T_none hG hin h42 (stp_q_no h63 hq.1 hq.2)
                obtain ⟨rfl, h47⟩ := hq
                clear HI hG
                as_aux_lemma =>
                  go_wp2
                  go_meet
                  case rel => exact ⟨rfl, rfl, (by first | exact HD | exact HD.more _), HT⟩
              · obtain ⟨g', hg', HI'⟩ := HI.tok hG hin h42 (stp_q h63 hjs hq)
                clear HI hG
                cases b
                · clear hq
                  as_aux_lemma =>
                    go_wp2
                    go_roundg g'
                    case measure => exact hg'
                    case rel => exact ⟨i + 1, j + 1, by omega, by omega, by go_num, by go_num, HI', (by first | exact HD | exact HD.more _)⟩
                · have h47 : (bt s j == 47) = false := by have : ¬ bt s j = 47 := fun e => hq ⟨rfl, e⟩; simp [this]
                  clear hq
                  as_aux_lemma =>
                    go_wp2
                    go_roundg g'
                    case measure => exact hg'
                    case rel => exact ⟨i + 1, j + 1, by omega, by omega, by go_num, by go_num, HI', (by first | exact HD | exact HD.more _)⟩
            · have HT : Gl.T (gl p s b) i j = false := T_none hG hin h42 (stp_past (by omega))
              clear HI hG
              as_aux_lemma =>
                go_wp2
                go_meet
                case rel => exact ⟨rfl, rfl, (by first | exact HD | exact HD.more _), HT⟩
          by_cases h91 : bt p i = 91
          · by_cases hjs : j < s.size
            · have hb0 := bt_nonneg s j
              have hb9 := bt_le s j
              have z1 := size_ext p i hi
              rcases hx : ms (p.extract i p.size) (bt s j) with ⟨x1, x2, x3⟩
              have HM : Hid (ms (p.extract i p.size) (bt s j) = (x1, x2, x3)) := hx
              have HC : Hid (∀ w, Calls Tryd.prog 16 #[.string (p.extract i p.size), .int .u8 (bt s j)] w fun e w' => e = .returned (.tuple #[.bool x1, .int .i64 x2, .bool x3]) ∧ w' = w) := by
                intro w; exact ms_any (p.extract i p.size) (bt s j) w (by omega) hb0 hb9 (x1, x2, x3) HM _ (mkHid rfl)
              cases x3
              · have HF : Hid (W p s b = false) := HI.bad hG hin h91 (bt s j) (by show (ms (p.extract i p.size) (bt s j)).2.2 = false; rw [hx])
                clear HI hG hx HM z1
                as_aux_lemma =>
                  go_wp2
                  go_quiet ((go_at_call 16; exact Calls.quiet_of_same (HC.out _)))
                  go_wp2
                  go_ret
                  exact ⟨ret_bool HF.out.symm, (by first | exact HD | exact HD.more _)⟩
              · have hw := ms_wid (p.extract i p.size) (bt s j) (by rw [hx])
                rw [hx] at hw
                obtain ⟨wd, rfl⟩ : ∃ wd : Nat, x2 = wd := ⟨x2.toNat, by have : (1 : Int) ≤ x2 := hw.1; omega⟩
                have hw1 : 1 ≤ wd := by have : (1 : Int) ≤ wd := hw.1; omega
                have hw2 : i + wd ≤ p.size := by have : ((wd : Nat) : Int).toNat ≤ (p.extract i p.size).size := hw.2.1; omega
                clear hw
                cases x1
                · have HT : Gl.T (gl p s b) i j = false := T_none hG hin h42 (stp_set_no h91 hx (.inl rfl))
                  clear HI hG hx HM z1
                  as_aux_lemma =>
                    go_wp2
                    go_quiet ((go_at_call 16; exact Calls.quiet_of_same (HC.out _)))
                    go_wp2
                    go_meet
                    case rel => exact ⟨rfl, rfl, (by first | exact HD | exact HD.more _), HT⟩
                · by_cases hq : b = true ∧ bt s j = 47
                  · have HT : Gl.T (gl p s b) i j = false := T_none hG hin h42 (stp_set_no h91 hx (.inr hq))
                    have HQ := mkHid hq.2
                    have hq2 : (bt s j == 47) = true := by simp [hq.2]
                    obtain ⟨rfl, h47⟩ := hq
                    clear HI hG hx HM z1 h47
                    as_aux_lemma =>
                      go_wp2
                      go_quiet ((go_at_call 16; exact Calls.quiet_of_same (HC.out _)))
                      go_wp2
                      go_meet
                      case rel => exact ⟨rfl, rfl, (by first | exact HD | exact HD.more _), HT⟩
                  · obtain ⟨g', hg', HI'⟩ := HI.tok hG hin h42 (stp_set h91 hjs hx rfl rfl hq)
                    have HI2 : WInv (gl p s b) (i + wd) (j + 1) u9 u10 g' := by simpa using HI'
                    clear HI hG hx HM z1 HI'
                    cases b
                    · clear hq
                      as_aux_lemma =>
                        go_wp2
                        go_quiet ((go_at_call 16; exact Calls.quiet_of_same (HC.out _)))
                        go_wp2
                        go_roundg g'
                        case measure => exact hg'
                        case rel => exact ⟨i + wd, j + 1, by omega, by omega, by go_num, by go_num, HI2, (by first | exact HD | exact HD.more _)⟩
                    · have h47 : (bt s j == 47) = false := by have : ¬ bt s j = 47 := fun e => hq ⟨rfl, e⟩; simp [this]
                      clear hq
                      as_aux_lemma =>
                        go_wp2
                        go_quiet ((go_at_call 16; exact Calls.quiet_of_same (HC.out _)))
                        go_wp2
                        go_roundg g'
                        case measure => exact hg'
                        case rel => exact ⟨i + wd, j + 1, by omega, by omega, by go_num, by go_num, HI2, (by first | exact HD | exact HD.more _)⟩
            · have HT : Gl.T (gl p s b) i j = false := T_none hG hin h42 (stp_past (by omega))
              clear HI hG
              as_aux_lemma =>
                go_wp2
                go_meet
                case rel => exact ⟨rfl, rfl, (by first | exact HD | exact HD.more _), HT⟩
          by_cases h92 : bt p i = 92
          · by_cases hip : i + 1 < p.size
            · have hd1 : decide ((i : Int) + 1 < (p.size : Int)) = true := by simp; omega
              by_cases hjs : j < s.size
              · have hd2 : decide ((j : Int) < (s.size : Int)) = true := by simp; omega
                by_cases hc : bt s j = bt p (i + 1)
                · obtain ⟨g', hg', HI'⟩ := HI.tok hG hin h42 (stp_esc h92 hjs hip hc)
                  have hc2 : (bt s j == bt p (i + 1)) = true := by simpa using hc
                  clear HI hG hc
                  as_aux_lemma =>
                    go_wp2
                    go_quiet (fail)
                    go_wp2
                    go_roundg g'
                    case measure => exact hg'
                    case rel => exact ⟨i + 2, j + 1, by omega, by omega, by go_num, by go_num, HI', (by first | exact HD | exact HD.more _)⟩
                · have HT : Gl.T (gl p s b) i j = false := T_none hG hin h42 (stp_esc_no h92 fun e => hc e.2)
                  have hc2 : (bt s j == bt p (i + 1)) = false := by simpa using hc
                  clear HI hG hc
                  as_aux_lemma =>
                    go_wp2
                    go_quiet (fail)
                    go_wp2
                    go_meet
                    case rel => exact ⟨rfl, rfl, (by first | exact HD | exact HD.more _), HT⟩
              · have HT : Gl.T (gl p s b) i j = false := T_none hG hin h42 (stp_past (by omega))
                have hd2 : decide ((j : Int) < (s.size : Int)) = false := by simp; omega
                clear HI hG
                as_aux_lemma =>
                  go_wp2
                  go_quiet (fail)
                  go_wp2
                  go_meet
                  case rel => exact ⟨rfl, rfl, (by first | exact HD | exact HD.more _), HT⟩
            · have HT : Gl.T (gl p s b) i j = false := T_none hG hin h42 (stp_esc_no h92 fun e => hip e.1)
              have hd1 : decide ((i : Int) + 1 < (p.size : Int)) = false := by simp; omega
              clear HI hG
              as_aux_lemma =>
                go_wp2
                go_quiet (fail)
                go_wp2
                go_meet
                case rel => exact ⟨rfl, rfl, (by first | exact HD | exact HD.more _), HT⟩
          by_cases hjs : j < s.size
          · by_cases hc : bt s j = bt p i
            · obtain ⟨g', hg', HI'⟩ := HI.tok hG hin h42 (stp_lit h63 h91 h92 hjs hc)
              have hc2 : (bt s j == bt p i) = true := by simpa using hc
              clear HI hG hc
              as_aux_lemma =>
                go_wp2
                go_roundg g'
                case measure => exact hg'
                case rel => exact ⟨i + 1, j + 1, by omega, by omega, by go_num, by go_num, HI', (by first | exact HD | exact HD.more _)⟩
            · have HT : Gl.T (gl p s b) i j = false := T_none hG hin h42 (stp_lit_no h63 h91 h92 hc)
              have hc2 : (bt s j == bt p i) = false := by simpa using hc
              clear HI hG hc
              as_aux_lemma =>
                go_wp2
                go_meet
                case rel => exact ⟨rfl, rfl, (by first | exact HD | exact HD.more _), HT⟩
          · have HT : Gl.T (gl p s b) i j = false := T_none hG hin h42 (stp_past (by omega))
            clear HI hG
            as_aux_lemma =>
              go_wp2
              go_meet
              case rel => exact ⟨rfl, rfl, (by first | exact HD | exact HD.more _), HT⟩
      case rest =>
        clear HD
        obtain ⟨rfl, rfl, HD, hT⟩ := hcut
        rcases HI.miss (gl_ok p s b) hs hT with ⟨rfl, rfl, HF0⟩ | ⟨q, a, rfl, rfl, hq, ha, hst, HF0⟩ | ⟨q, a, rfl, rfl, hq, ha, hst, g', hg', HI'⟩
        · have HF : Hid (W p s b = false) := HF0
          clear HI hT HF0
          as_aux_lemma =>
            go_wp2
            go_ret
            exact ⟨ret_bool HF.out.symm, (by first | exact HD | exact HD.more _)⟩
        · have HF : Hid (W p s b = false) := HF0
          have hq' : q ≤ p.size := hq
          have ha' : a ≤ s.size := ha
          have hst' : a = s.size ∨ (b = true ∧ bt s a = 47) := hst
          clear HI hT HF0 hst hq ha
          by_cases hlt : a < s.size
          · rcases hst' with e | ⟨rfl, e⟩
            · omega
            · as_aux_lemma =>
                go_wp2
                go_ret
                exact ⟨ret_bool HF.out.symm, (by first | exact HD | exact HD.more _)⟩
          · have hge : s.size ≤ a := by omega
            clear hst'
            as_aux_lemma =>
              go_wp2
              go_ret
              exact ⟨ret_bool HF.out.symm, (by first | exact HD | exact HD.more _)⟩
        · have hq' : q ≤ p.size := hq
          have ha' : a < s.size := ha
          have hd3 : ((a : Int) == (s.size : Int)) = false := by simp; omega
          have hst' : ¬ (b = true ∧ bt s a = 47) := hst
          clear HI hT hst hq ha
          cases b
          · clear hst'
            as_aux_lemma =>
              go_wp2
              go_roundg g'
              case measure => exact hg'
              case rel => exact ⟨q, a + 1, hq', ha', rfl, by go_num, HI', (by first | exact HD | exact HD.more _)⟩
          · have h47 : (bt s a == 47) = false := by have : ¬ bt s a = 47 := fun e => hst' ⟨rfl, e⟩; simp [this]
            clear hst'
            as_aux_lemma =>
              go_wp2
              go_roundg g'
              case measure => exact hg'
              case rel => exact ⟨q, a + 1, hq', ha', rfl, by go_num, HI', (by first | exact HD | exact HD.more _)⟩
    · have hjs : j < s.size := by omega
      clear hne
      have hT : Gl.T (gl p s b) i j = false := by
        rw [Gl.T_end (show (gl p s b).n ≤ i from Nat.not_lt.1 hin)]
        show decide (j = s.size) = false
        simp; omega
      rcases HI.miss (gl_ok p s b) hs hT with ⟨rfl, rfl, HF0⟩ | ⟨q, a, rfl, rfl, hq, ha, hst, HF0⟩ | ⟨q, a, rfl, rfl, hq, ha, hst, g', hg', HI'⟩
      · have HF : Hid (W p s b = false) := HF0
        clear HI hT HF0
        as_aux_lemma =>
          go_wp2
          go_ret
          exact ⟨ret_bool HF.out.symm, (by first | exact HD | exact HD.more _)⟩
      · have HF : Hid (W p s b = false) := HF0
        have hq' : q ≤ p.size := hq
        have ha' : a ≤ s.size := ha
        have hst' : a = s.size ∨ (b = true ∧ bt s a = 47) := hst
        clear HI hT HF0 hst hq ha
        by_cases hlt : a < s.size
        · rcases hst' with e | ⟨rfl, e⟩
          · omega
          · as_aux_lemma =>
              go_wp2
              go_ret
              exact ⟨ret_bool HF.out.symm, (by first | exact HD | exact HD.more _)⟩
        · have hge : s.size ≤ a := by omega
          clear hst'
          as_aux_lemma =>
            go_wp2
            go_ret
            exact ⟨ret_bool HF.out.symm, (by first | exact HD | exact HD.more _)⟩
      · have hq' : q ≤ p.size := hq
        have ha' : a < s.size := ha
        have hd3 : ((a : Int) == (s.size : Int)) = false := by simp; omega
        have hst' : ¬ (b = true ∧ bt s a = 47) := hst
        clear HI hT hst hq ha
        cases b
        · clear hst'
          as_aux_lemma =>
            go_wp2
            go_roundg g'
            case measure => exact hg'
            case rel => exact ⟨q, a + 1, hq', ha', rfl, by go_num, HI', (by first | exact HD | exact HD.more _)⟩
        · have h47 : (bt s a == 47) = false := by have : ¬ bt s a = 47 := fun e => hst' ⟨rfl, e⟩; simp [this]
          clear hst'
          as_aux_lemma =>
            go_wp2
            go_roundg g'
            case measure => exact hg'
            case rel => exact ⟨q, a + 1, hq', ha', rfl, by go_num, HI', (by first | exact HD | exact HD.more _)⟩

theorem wild_any : ∀ (N : Nat) (p s : ByteArray) (b : Bool) (w : World), p.size < N → p.size ≤ 256 → s.size ≤ 256 →
    Calls Tryd.prog 14 #[.string p, .string s, .bool b] w fun e w' => e = .returned (.bool (W p s b)) ∧ ∃ n, w' = w.drewN n
  | 0, p, s, b, w, h, _, _ => by omega
  | N + 1, p, s, b, w, h, hp, hs => wild_step p s b w hp hs fun p' s' w' h1 h2 => wild_any N p' s' true w' (by omega) (by omega) h2
end Go.Proofs.Qxb6603394aDoor
