import Derived.Test.Qxb6603871aDoorAt
set_option linter.unusedVariables false
set_option linter.unusedSimpArgs false
namespace Go.Proofs.Qxb6603871aDoor
open Go.RowKit Go.PlainAid

/-- The lexer L in block b, read up to j. -/
structure Ax (L : Lx) (b : Nat) (W0 W : World) (j : Nat) (w : World) : Prop where
  lex : LexAt w b { L with i := (j : Int) }
  tk : Tk W0 W b w
theorem Ax.drew {L : Lx} {b : Nat} {W0 W w : World} {j : Nat} (h : Ax L b W0 W j w) (n : Nat) : Ax L b W0 W j (w.drewN n) := ⟨h.lex.drewN h.tk.lt n, h.tk.drew n⟩
theorem Ax.drw {L : Lx} {b : Nat} {W0 W w w' : World} {j : Nat} (h : Ax L b W0 W j w) (hd : Drw w w') : Ax L b W0 W j w' := by obtain ⟨n, rfl⟩ := hd; exact h.drew n
theorem Ax.set {L : Lx} {b : Nat} {W0 W w : World} {j : Nat} (h : Ax L b W0 W j w) (v : Int) (k : Nat) (hv : v = (k : Int)) : Ax L b W0 W k (w.setCell ⟨b, 1, none⟩ (.int .i64 v)) := by
  subst hv
  exact ⟨h.lex.set1 (k : Int), h.tk.set⟩
theorem Ax.c0 {L : Lx} {b : Nat} {W0 W w : World} {j : Nat} {s : ByteArray} (h : Ax L b W0 W j w) (hs : L.sql = s) : w.cell? ⟨b, 0, none⟩ = some (.string s) := by rw [← hs]; exact h.lex.c0
theorem Ax.c1 {L : Lx} {b : Nat} {W0 W w : World} {j : Nat} (h : Ax L b W0 W j w) : w.cell? ⟨b, 1, none⟩ = some (.int .i64 j) := h.lex.c1
theorem Ax.c2 {L : Lx} {b : Nat} {W0 W w : World} {j : Nat} (h : Ax L b W0 W j w) : w.cell? ⟨b, 2, none⟩ = some (.int .i32 L.kind) := h.lex.c2
theorem Ax.f1 {L : Lx} {b : Nat} {W0 W w : World} {j : Nat} (h : Ax L b W0 W j w) : w.frozen? ⟨b, 1, none⟩ = false := h.lex.f 1

set_option maxRecDepth 100000 in
set_option maxHeartbeats 4000000 in
theorem quoted_any (s : ByteArray) (L : Lx) (b : Nat) (W0 W w : World) (p : Nat) (q : Int) (bs : Bool) (hs : L.sql = s) (hA : Ax L b W0 W p w) (hp : p < s.size) (hz : s.size ≤ 1048576) :
    Calls Tryd.prog 25 #[.pointer (some ⟨b, 0, none⟩), .int .u8 q, .bool bs] w fun e w' => e = .returned (.tuple #[]) ∧ ∃ j, p < j ∧ j ≤ s.size + 1 ∧ (j = s.size + 1 → bs = true ∧ bt s (s.size - 1) = 92) ∧ Ax L b W0 W j w' := by
  have HS := mkHid hs
  have hA1 := hA.set ((p : Int) + 1) (p + 1) (by omega)
  have c1 := hA.c1
  have f1 := hA.f1
  clear hs
  go_enter Tryd.func25, Tryd.ntmps25
  go_wp2_with fail
  clear c1 f1 hA
  go_loopg [] (s.size + 1 - (p + 1)) (fun g wr => ∃ j, p < j ∧ j ≤ s.size + 1 ∧ g = s.size + 1 - j ∧ Hid (j = s.size + 1 → bs = true ∧ bt s (s.size - 1) = 92) ∧ Ax L b W0 W j wr)
  case atStart => exact ⟨p + 1, by omega, by omega, rfl, fun h => by omega, hA1⟩
  case round =>
    clear hA1
    obtain ⟨j, hpj, hj, rfl, HJ, hA⟩ := hrel
    have hbt := get_bt s
    have c0 := hA.c0 HS.out
    have c1 := hA.c1
    have f1 := hA.f1
    have HA := mkHid hA
    have HA1 := mkHid (hA.set ((j : Int) + 1) (j + 1) (by omega))
    have HA2 := mkHid (HA1.out.set ((j : Int) + 1 + 1) (j + 2) (by omega))
    clear hA
    by_cases hjl : j < s.size
    · by_cases h92 : bt s j = 92
      · have h92b : (bt s j == 92) = true := by simp [h92]
        have H92 := mkHid h92
        clear h92
        cases bs
        · skip
          cases hq : (bt s j == q)
          · clear HA HA2
            as_aux_lemma =>
              go_wp2_with fail
              go_quiet (fail)
              go_wp2_with fail
              go_quiet (fail)
              go_wp2_with fail
              go_quiet (fail)
              go_wp2_with fail
              go_roundg (s.size + 1 - (j + 1))
              case measure => omega
              case rel => exact ⟨j + 1, by omega, by omega, rfl, fun h => by omega, by first | exact HA1.out.drew _ | exact (HA1.out.drew _).drew _ | exact ((HA1.out.drew _).drew _).drew _⟩
          · by_cases hj1 : j + 1 < s.size
            · have hd1 : decide ((j : Int) + 1 < (s.size : Int)) = true := decide_eq_true (by omega)
              cases hq2 : (bt s (j + 1) == q)
              · clear HA HA2
                as_aux_lemma =>
                  go_wp2_with fail
                  go_quiet (fail)
                  go_wp2_with fail
                  go_quiet (fail)
                  go_wp2_with fail
                  go_quiet (fail)
                  go_wp2_with fail
                  first | go_end0 | go_returns | go_ret
                  exact ⟨rfl, j + 1, by omega, by omega, fun h => by omega, by first | exact HA1.out.drew _ | exact (HA1.out.drew _).drew _ | exact ((HA1.out.drew _).drew _).drew _⟩
              · clear HA
                as_aux_lemma =>
                  go_wp2_with fail
                  go_quiet (fail)
                  go_wp2_with fail
                  go_quiet (fail)
                  go_wp2_with fail
                  go_quiet (fail)
                  go_wp2_with fail
                  go_roundg (s.size + 1 - (j + 2))
                  case measure => omega
                  case rel => exact ⟨j + 2, by omega, by omega, rfl, fun h => by omega, by first | exact HA2.out.drew _ | exact (HA2.out.drew _).drew _ | exact ((HA2.out.drew _).drew _).drew _⟩
            · have hd1 : decide ((j : Int) + 1 < (s.size : Int)) = false := decide_eq_false (by omega)
              clear HA HA2
              as_aux_lemma =>
                go_wp2_with fail
                go_quiet (fail)
                go_wp2_with fail
                go_quiet (fail)
                go_wp2_with fail
                go_quiet (fail)
                go_wp2_with fail
                first | go_end0 | go_returns | go_ret
                exact ⟨rfl, j + 1, by omega, by omega, fun h => by omega, by first | exact HA1.out.drew _ | exact (HA1.out.drew _).drew _ | exact ((HA1.out.drew _).drew _).drew _⟩
        · clear HA
          as_aux_lemma =>
            go_wp2_with fail
            go_quiet (fail)
            go_wp2_with fail
            go_quiet (fail)
            go_wp2_with fail
            go_roundg (s.size + 1 - (j + 2))
            case measure => omega
            case rel => exact ⟨j + 2, by omega, by omega, rfl, fun h => ⟨by first | rfl | trivial, by rw [show s.size - 1 = j by omega]; exact H92.out⟩, by first | exact HA2.out.drew _ | exact (HA2.out.drew _).drew _⟩
      · have h92b : (bt s j == 92) = false := by simp [h92]
        clear h92
        cases hq : (bt s j == q)
        · clear HA HA2
          as_aux_lemma =>
            go_wp2_with fail
            go_quiet (fail)
            go_wp2_with fail
            go_quiet (fail)
            go_wp2_with fail
            go_quiet (fail)
            go_wp2_with fail
            go_roundg (s.size + 1 - (j + 1))
            case measure => omega
            case rel => exact ⟨j + 1, by omega, by omega, rfl, fun h => by omega, by first | exact HA1.out.drew _ | exact (HA1.out.drew _).drew _ | exact ((HA1.out.drew _).drew _).drew _⟩
        · by_cases hj1 : j + 1 < s.size
          · have hd1 : decide ((j : Int) + 1 < (s.size : Int)) = true := decide_eq_true (by omega)
            cases hq2 : (bt s (j + 1) == q)
            · clear HA HA2
              as_aux_lemma =>
                go_wp2_with fail
                go_quiet (fail)
                go_wp2_with fail
                go_quiet (fail)
                go_wp2_with fail
                go_quiet (fail)
                go_wp2_with fail
                first | go_end0 | go_returns | go_ret
                exact ⟨rfl, j + 1, by omega, by omega, fun h => by omega, by first | exact HA1.out.drew _ | exact (HA1.out.drew _).drew _ | exact ((HA1.out.drew _).drew _).drew _⟩
            · clear HA
              as_aux_lemma =>
                go_wp2_with fail
                go_quiet (fail)
                go_wp2_with fail
                go_quiet (fail)
                go_wp2_with fail
                go_quiet (fail)
                go_wp2_with fail
                go_roundg (s.size + 1 - (j + 2))
                case measure => omega
                case rel => exact ⟨j + 2, by omega, by omega, rfl, fun h => by omega, by first | exact HA2.out.drew _ | exact (HA2.out.drew _).drew _ | exact ((HA2.out.drew _).drew _).drew _⟩
          · have hd1 : decide ((j : Int) + 1 < (s.size : Int)) = false := decide_eq_false (by omega)
            clear HA HA2
            as_aux_lemma =>
              go_wp2_with fail
              go_quiet (fail)
              go_wp2_with fail
              go_quiet (fail)
              go_wp2_with fail
              go_quiet (fail)
              go_wp2_with fail
              first | go_end0 | go_returns | go_ret
              exact ⟨rfl, j + 1, by omega, by omega, fun h => by omega, by first | exact HA1.out.drew _ | exact (HA1.out.drew _).drew _ | exact ((HA1.out.drew _).drew _).drew _⟩
    · clear HA1 HA2
      as_aux_lemma =>
        go_wp2_with fail
        go_quiet (fail)
        go_wp2_with fail
        first | go_end0 | go_returns | go_ret
        exact ⟨rfl, j, hpj, hj, HJ.out, by first | exact HA.out.drew _ | exact (HA.out.drew _).drew _⟩
end Go.Proofs.Qxb6603871aDoor
