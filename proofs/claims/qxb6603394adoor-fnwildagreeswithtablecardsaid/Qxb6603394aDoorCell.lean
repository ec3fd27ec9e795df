import Derived.Test.Qxb6603394aDoorStar
import Derived.Test.Qxb6603394aDoorSet
import Derived.Test.Qxb6603394aDoorStp
set_option linter.unusedVariables false
set_option linter.unusedSimpArgs false
namespace Go.Proofs.Qxb6603394aDoor
open Go.RowKit Go.PlainAid

/-- The rows of the table below i are laid, and those cells of row i that lie right of j. -/
structure DpOk (w : World) (db : Nat) (rb : Nat → Nat) (N M : Nat) (TB : Nat → Nat → Bool) (i j : Nat) : Prop where
  row : ∀ k, i ≤ k → k ≤ N → w.cell? ⟨db, k, none⟩ = some (.slice (some ⟨rb k, 0, none⟩) (M + 1) (M + 1))
  cell : ∀ k x, (i < k ∨ (i = k ∧ j < x)) → k ≤ N → x ≤ M → w.cell? ⟨rb k, x, none⟩ = some (.bool (TB k x))

theorem c13 (q : ByteArray) (c : Int) (w : World) (hq : q.size ≤ 256) (h0 : 0 ≤ c) (h1 : c ≤ 255) (R : Bool × Int × Bool) (HR : Hid (ms q c = R)) :
    Calls Tryd.prog 13 #[.string q, .int .u8 c] w fun e w' => e = .returned (.tuple #[.bool R.1, .int .i64 R.2.1, .bool R.2.2]) ∧ w' = w := by
  go_enter Tryd.func13, Tryd.ntmps13
  go_wp2_with (go_at_call 16; refine (ms_any q c _ hq h0 h1 R HR _ (mkHid rfl)).mono ?_; rintro e w' ⟨rfl, rfl⟩)
  go_ret3
  exact ⟨rfl, rfl⟩

set_option maxRecDepth 100000 in
set_option maxHeartbeats 20000000 in
theorem cell_end (p s : ByteArray) (b : Bool) (db : Nat) (rb : Nat → Nat) (TB : Nat → Nat → Bool) (i j : Nat) (w : World) (hp : p.size ≤ 256) (hs : s.size ≤ 256) (hj : j ≤ s.size)
    (hD : DpOk w db rb p.size s.size TB i j) (HB : Hid (∀ k x, TB k x = Gl.T (gl p s b) k x)) (R : Bool) (HR : Hid (Gl.T (gl p s b) i j = R)) (hi : i = p.size) :
    Calls Tryd.prog 15 #[.string p, .string s, .bool b, .slice (some ⟨db, 0, none⟩) (p.size + 1) (p.size + 1), .int .i64 i, .int .i64 j] w fun e w' => e = .returned (.bool R) ∧ ∃ n, w' = w.drewN n := by
  have hb1 := get_bt p
  have hb2 := get_bt s
  by_cases e : j = s.size
  · have HF : Hid (true = R) := by show _ = _; rw [← HR.out, Gl.T_end (show (gl p s b).n ≤ i by rw [hi]; exact Nat.le_refl _)]; symm; exact decide_eq_true e
    have e1 : ((i : Int) == (p.size : Int)) = true := by simp; omega
    have e2 : ((j : Int) == (s.size : Int)) = true := by simp; omega
    clear hi e hD HB HR
    go_enter Tryd.func15, Tryd.ntmps15
    go_wp2
    go_ret
    exact ⟨ret_bool HF.out, 0, rfl⟩
  · have HF : Hid (false = R) := by show _ = _; rw [← HR.out, Gl.T_end (show (gl p s b).n ≤ i by rw [hi]; exact Nat.le_refl _)]; symm; exact decide_eq_false e
    have e1 : ((i : Int) == (p.size : Int)) = true := by simp; omega
    have e2 : ((j : Int) == (s.size : Int)) = false := by simp; omega
    clear hi e hD HB HR
    go_enter Tryd.func15, Tryd.ntmps15
    go_wp2
    go_ret
    exact ⟨ret_bool HF.out, 0, rfl⟩

theorem T_some {G : Gl} (hG : G.Ok) {i j x : Nat} (h : i < G.n) (h2 : G.P i ≠ 42) (hs : Gl.stp G i j = some x) : Gl.T G i j = Gl.T G x (j + 1) := by
  rw [Gl.T_tok hG h h2, hs]

set_option maxRecDepth 100000 in
set_option maxHeartbeats 20000000 in
theorem cell_q (p s : ByteArray) (b : Bool) (db : Nat) (rb : Nat → Nat) (TB : Nat → Nat → Bool) (i j : Nat) (w : World) (hp : p.size ≤ 256) (hs : s.size ≤ 256) (hj : j ≤ s.size)
    (hD : DpOk w db rb p.size s.size TB i j) (HB : Hid (∀ k x, TB k x = Gl.T (gl p s b) k x)) (R : Bool) (HR : Hid (Gl.T (gl p s b) i j = R)) (hin : i < p.size) (h63 : bt p i = 63) :
    Calls Tryd.prog 15 #[.string p, .string s, .bool b, .slice (some ⟨db, 0, none⟩) (p.size + 1) (p.size + 1), .int .i64 i, .int .i64 j] w fun e w' => e = .returned (.bool R) ∧ ∃ n, w' = w.drewN n := by
  have hb1 := get_bt p
  have hb2 := get_bt s
  have hG := gl_ok p s b
  have h42 : (gl p s b).P i ≠ 42 := fun e => by have : bt p i = 42 := e; omega
  by_cases hjs : j < s.size
  · by_cases hq : b = true ∧ bt s j = 47
    · have HF : Hid (false = R) := by show _ = _; rw [← HR.out, T_none hG hin h42 (stp_q_no h63 hq.1 hq.2)]
      obtain ⟨rfl, h47⟩ := hq
      have g1 : (bt s j == 47) = true := by simp [h47]
      clear hD HB HR hG h42 h47
      go_enter Tryd.func15, Tryd.ntmps15
      go_wp2
      go_ret
      exact ⟨ret_bool HF.out, 0, rfl⟩
    · have HF : Hid (TB (i + 1) (j + 1) = R) := by show _ = _; rw [← HR.out, T_some hG hin h42 (stp_q h63 hjs hq), HB.out]
      have c1 := hD.row (i + 1) (by omega) hin
      have c2 := hD.cell (i + 1) (j + 1) (.inl (by omega)) hin hjs
      cases b
      · clear hD HB HR hG h42 hq
        go_enter Tryd.func15, Tryd.ntmps15
        go_wp2
        go_ret
        exact ⟨ret_bool HF.out, 0, rfl⟩
      · have g1 : (bt s j == 47) = false := by have : ¬ bt s j = 47 := fun e => hq ⟨rfl, e⟩; simp [this]
        clear hD HB HR hG h42 hq
        go_enter Tryd.func15, Tryd.ntmps15
        go_wp2
        go_ret
        exact ⟨ret_bool HF.out, 0, rfl⟩
  · have HF : Hid (false = R) := by show _ = _; rw [← HR.out, T_none hG hin h42 (stp_past (by omega))]
    clear hD HB HR hG h42
    go_enter Tryd.func15, Tryd.ntmps15
    go_wp2
    go_ret
    exact ⟨ret_bool HF.out, 0, rfl⟩

set_option maxRecDepth 100000 in
set_option maxHeartbeats 20000000 in
theorem cell_lit (p s : ByteArray) (b : Bool) (db : Nat) (rb : Nat → Nat) (TB : Nat → Nat → Bool) (i j : Nat) (w : World) (hp : p.size ≤ 256) (hs : s.size ≤ 256) (hj : j ≤ s.size)
    (hD : DpOk w db rb p.size s.size TB i j) (HB : Hid (∀ k x, TB k x = Gl.T (gl p s b) k x)) (R : Bool) (HR : Hid (Gl.T (gl p s b) i j = R)) (hin : i < p.size) (x42 : bt p i ≠ 42) (x63 : bt p i ≠ 63) (x91 : bt p i ≠ 91) (x92 : bt p i ≠ 92) :
    Calls Tryd.prog 15 #[.string p, .string s, .bool b, .slice (some ⟨db, 0, none⟩) (p.size + 1) (p.size + 1), .int .i64 i, .int .i64 j] w fun e w' => e = .returned (.bool R) ∧ ∃ n, w' = w.drewN n := by
  have hb1 := get_bt p
  have hb2 := get_bt s
  have hG := gl_ok p s b
  by_cases hjs : j < s.size
  · by_cases hq : bt s j = bt p i
    · have HF : Hid (TB (i + 1) (j + 1) = R) := by show _ = _; rw [← HR.out, T_some hG hin x42 (stp_lit x63 x91 x92 hjs hq), HB.out]
      have c1 := hD.row (i + 1) (by omega) hin
      have c2 := hD.cell (i + 1) (j + 1) (.inl (by omega)) hin hjs
      have g1 : (bt s j == bt p i) = true := by simp [hq]
      clear hD HB HR hG hq
      go_enter Tryd.func15, Tryd.ntmps15
      go_wp2
      go_ret
      exact ⟨ret_bool HF.out, 0, rfl⟩
    · have HF : Hid (false = R) := by show _ = _; rw [← HR.out, T_none hG hin x42 (stp_lit_no x63 x91 x92 hq)]
      have g1 : (bt s j == bt p i) = false := by simp [hq]
      clear hD HB HR hG hq
      go_enter Tryd.func15, Tryd.ntmps15
      go_wp2
      go_ret
      exact ⟨ret_bool HF.out, 0, rfl⟩
  · have HF : Hid (false = R) := by show _ = _; rw [← HR.out, T_none hG hin x42 (stp_past (by omega))]
    clear hD HB HR hG
    go_enter Tryd.func15, Tryd.ntmps15
    go_wp2
    go_ret
    exact ⟨ret_bool HF.out, 0, rfl⟩

set_option maxRecDepth 100000 in
set_option maxHeartbeats 20000000 in
theorem cell_esc (p s : ByteArray) (b : Bool) (db : Nat) (rb : Nat → Nat) (TB : Nat → Nat → Bool) (i j : Nat) (w : World) (hp : p.size ≤ 256) (hs : s.size ≤ 256) (hj : j ≤ s.size)
    (hD : DpOk w db rb p.size s.size TB i j) (HB : Hid (∀ k x, TB k x = Gl.T (gl p s b) k x)) (R : Bool) (HR : Hid (Gl.T (gl p s b) i j = R)) (hin : i < p.size) (h92 : bt p i = 92) :
    Calls Tryd.prog 15 #[.string p, .string s, .bool b, .slice (some ⟨db, 0, none⟩) (p.size + 1) (p.size + 1), .int .i64 i, .int .i64 j] w fun e w' => e = .returned (.bool R) ∧ ∃ n, w' = w.drewN n := by
  have hb1 := get_bt p
  have hb2 := get_bt s
  have hG := gl_ok p s b
  have h42 : (gl p s b).P i ≠ 42 := fun e => by have : bt p i = 42 := e; omega
  by_cases hip : i + 1 < p.size
  · have hd1 : decide ((i : Int) + 1 < (p.size : Int)) = true := by simp; omega
    by_cases hjs : j < s.size
    · have hd2 : decide ((j : Int) < (s.size : Int)) = true := by simp; omega
      by_cases hq : bt s j = bt p (i + 1)
      · have HF : Hid (TB (i + 2) (j + 1) = R) := by show _ = _; rw [← HR.out, T_some hG hin h42 (stp_esc h92 hjs hip hq), HB.out]
        have c1 := hD.row (i + 2) (by omega) hip
        have c2 := hD.cell (i + 2) (j + 1) (.inl (by omega)) hip hjs
        have g1 : (bt s j == bt p (i + 1)) = true := by simp [hq]
        clear hD HB HR hG hq h42
        go_enter Tryd.func15, Tryd.ntmps15
        go_wp2
        go_quiet (fail)
        go_wp2
        go_ret
        exact ⟨ret_bool HF.out, _, rfl⟩
      · have HF : Hid (false = R) := by show _ = _; rw [← HR.out, T_none hG hin h42 (stp_esc_no h92 fun e => hq e.2)]
        have g1 : (bt s j == bt p (i + 1)) = false := by simp [hq]
        clear hD HB HR hG hq h42
        go_enter Tryd.func15, Tryd.ntmps15
        go_wp2
        go_quiet (fail)
        go_wp2
        go_ret
        exact ⟨ret_bool HF.out, _, rfl⟩
    · have hd2 : decide ((j : Int) < (s.size : Int)) = false := by simp; omega
      have HF : Hid (false = R) := by show _ = _; rw [← HR.out, T_none hG hin h42 (stp_past (by omega))]
      clear hD HB HR hG h42
      go_enter Tryd.func15, Tryd.ntmps15
      go_wp2
      go_quiet (fail)
      go_wp2
      go_ret
      exact ⟨ret_bool HF.out, _, rfl⟩
  · have hd1 : decide ((i : Int) + 1 < (p.size : Int)) = false := by simp; omega
    have HF : Hid (false = R) := by show _ = _; rw [← HR.out, T_none hG hin h42 (stp_esc_no h92 fun e => hip e.1)]
    clear hD HB HR hG h42
    go_enter Tryd.func15, Tryd.ntmps15
    go_wp2
    go_quiet (fail)
    go_wp2
    go_ret
    exact ⟨ret_bool HF.out, _, rfl⟩

set_option maxRecDepth 100000 in
set_option maxHeartbeats 20000000 in
theorem cell_set (p s : ByteArray) (b : Bool) (db : Nat) (rb : Nat → Nat) (TB : Nat → Nat → Bool) (i j : Nat) (w : World) (hp : p.size ≤ 256) (hs : s.size ≤ 256) (hj : j ≤ s.size)
    (hD : DpOk w db rb p.size s.size TB i j) (HB : Hid (∀ k x, TB k x = Gl.T (gl p s b) k x)) (R : Bool) (HR : Hid (Gl.T (gl p s b) i j = R)) (hin : i < p.size) (h91 : bt p i = 91) :
    Calls Tryd.prog 15 #[.string p, .string s, .bool b, .slice (some ⟨db, 0, none⟩) (p.size + 1) (p.size + 1), .int .i64 i, .int .i64 j] w fun e w' => e = .returned (.bool R) ∧ ∃ n, w' = w.drewN n := by
  have hb1 := get_bt p
  have hb2 := get_bt s
  have hG := gl_ok p s b
  have h42 : (gl p s b).P i ≠ 42 := fun e => by have : bt p i = 42 := e; omega
  by_cases hjs : j < s.size
  · have hb0 := bt_nonneg s j
    have hb9 := bt_le s j
    have z1 := size_ext p i (Nat.le_of_lt hin)
    rcases hx : ms (p.extract i p.size) (bt s j) with ⟨x1, x2, x3⟩
    have HM : Hid (ms (p.extract i p.size) (bt s j) = (x1, x2, x3)) := hx
    have HC : Hid (∀ w, Calls Tryd.prog 13 #[.string (p.extract i p.size), .int .u8 (bt s j)] w fun e w' => e = .returned (.tuple #[.bool x1, .int .i64 x2, .bool x3]) ∧ w' = w) := by
      intro w; exact c13 (p.extract i p.size) (bt s j) w (by omega) hb0 hb9 (x1, x2, x3) HM
    cases x3
    · have HF : Hid (false = R) := by
        show _ = _
        rw [← HR.out, T_none hG hin h42]
        unfold Gl.stp
        rw [if_neg (show ¬ (gl p s b).m ≤ j from Nat.not_le.2 hjs), if_neg (show ¬ (gl p s b).P i = 63 from fun e => by have : bt p i = 63 := e; omega), if_pos (show (gl p s b).P i = 91 from h91), if_neg]
        rintro ⟨h, _⟩
        have h' : (ms (p.extract i p.size) (bt s j)).2.2 = true := h
        rw [hx] at h'
        cases h'
      clear hD HB HR hG h42 hx HM z1
      go_enter Tryd.func15, Tryd.ntmps15
      go_wp2
      go_quiet ((go_at_call 13; exact Calls.quiet_of_same (HC.out _)))
      go_wp2
      go_ret
      exact ⟨ret_bool HF.out, _, rfl⟩
    · have hw := ms_wid (p.extract i p.size) (bt s j) (by rw [hx])
      rw [hx] at hw
      obtain ⟨wd, rfl⟩ : ∃ wd : Nat, x2 = wd := ⟨x2.toNat, by have : (1 : Int) ≤ x2 := hw.1; omega⟩
      have hw1 : 1 ≤ wd := by have : (1 : Int) ≤ wd := hw.1; omega
      have hw2 : i + wd ≤ p.size := by have : ((wd : Nat) : Int).toNat ≤ (p.extract i p.size).size := hw.2.1; omega
      clear hw
      cases x1
      · have HF : Hid (false = R) := by show _ = _; rw [← HR.out, T_none hG hin h42 (stp_set_no h91 hx (.inl rfl))]
        clear hD HB HR hG h42 hx HM z1
        go_enter Tryd.func15, Tryd.ntmps15
        go_wp2
        go_quiet ((go_at_call 13; exact Calls.quiet_of_same (HC.out _)))
        go_wp2
        go_ret
        exact ⟨ret_bool HF.out, _, rfl⟩
      · by_cases hq : b = true ∧ bt s j = 47
        · have HF : Hid (false = R) := by show _ = _; rw [← HR.out, T_none hG hin h42 (stp_set_no h91 hx (.inr hq))]
          obtain ⟨rfl, h47⟩ := hq
          have g1 : (bt s j == 47) = true := by simp [h47]
          clear hD HB HR hG h42 hx HM z1 h47
          go_enter Tryd.func15, Tryd.ntmps15
          go_wp2
          go_quiet ((go_at_call 13; exact Calls.quiet_of_same (HC.out _)))
          go_wp2
          go_ret
          exact ⟨ret_bool HF.out, _, rfl⟩
        · have HF : Hid (TB (i + wd) (j + 1) = R) := by
            show _ = _
            rw [← HR.out, T_some hG hin h42 (stp_set h91 hjs hx rfl rfl hq), HB.out]
            rfl
          have c1 := hD.row (i + wd) (by omega) hw2
          have c2 := hD.cell (i + wd) (j + 1) (.inl (by omega)) hw2 hjs
          cases b
          · clear hD HB HR hG h42 hq hx HM z1
            go_enter Tryd.func15, Tryd.ntmps15
            go_wp2
            go_quiet ((go_at_call 13; exact Calls.quiet_of_same (HC.out _)))
            go_wp2
            go_ret
            exact ⟨ret_bool HF.out, _, rfl⟩
          · have g1 : (bt s j == 47) = false := by have : ¬ bt s j = 47 := fun e => hq ⟨rfl, e⟩; simp [this]
            clear hD HB HR hG h42 hq hx HM z1
            go_enter Tryd.func15, Tryd.ntmps15
            go_wp2
            go_quiet ((go_at_call 13; exact Calls.quiet_of_same (HC.out _)))
            go_wp2
            go_ret
            exact ⟨ret_bool HF.out, _, rfl⟩
  · have HF : Hid (false = R) := by show _ = _; rw [← HR.out, T_none hG hin h42 (stp_past (by omega))]
    clear hD HB HR hG h42
    go_enter Tryd.func15, Tryd.ntmps15
    go_wp2
    go_ret
    exact ⟨ret_bool HF.out, 0, rfl⟩
end Go.Proofs.Qxb6603394aDoor
