import Derived.Test.Qxb6603871aDoorDq
set_option linter.unusedVariables false
set_option linter.unusedSimpArgs false
namespace Go.Proofs.Qxb6603871aDoor
open Go.RowKit Go.PlainAid

theorem ix0 (w : World) : Sem.run Tryd.prog (Instr.index 48 (.agg #[.string ⟨#[47, 42, 33]⟩, .string ⟨#[47, 42, 77, 33]⟩]) (.int .i64 0)) w = .ok (.string ⟨#[47, 42, 33]⟩) w := by
  unfold Instr.index
  simp [go_sem]
theorem ix1 (w : World) : Sem.run Tryd.prog (Instr.index 48 (.agg #[.string ⟨#[47, 42, 33]⟩, .string ⟨#[47, 42, 77, 33]⟩]) (.int .i64 1)) w = .ok (.string ⟨#[47, 42, 77, 33]⟩) w := by
  unfold Instr.index
  simp [go_sem]

set_option maxRecDepth 100000 in
set_option maxHeartbeats 4000000 in
/-- blockComment, MariaDB. -/
theorem block3 (s : ByteArray) (L : Lx) (b : Nat) (W0 W w : World) (p : Nat) (m0 : Int) (hm : W0.cell? ⟨0, 0, none⟩ = some (.int .i64 m0)) (hs : L.sql = s) (hA : Ax L b W0 W p w) (hp : p + 2 ≤ s.size) (hz : s.size ≤ 1048576) (hk : (L.kind == 3) = true) :
    Calls Tryd.prog 29 #[.pointer (some ⟨b, 0, none⟩)] w fun e w' => e = .returned (.tuple #[]) ∧ ∃ j, p < j ∧ j ≤ s.size ∧ Ax L b W0 W j w' := by
  have c2 := hA.c2
  have HM := mkHid hm
  have HS := mkHid hs
  have hbt := get_bt s
  clear hm hs
  go_enter Tryd.func29, Tryd.ntmps29
  go_wp2_with fail
  clear c2
  go_loopg [12] 2 (fun g v wr => ∃ k : Nat, k ≤ 2 ∧ g = 2 - k ∧ v = .int .i64 k ∧ Ax L b W0 W p wr)
  case atStart => exact ⟨0, by omega, rfl, rfl, hA⟩
  case round =>
    clear hA
    obtain ⟨k, hk2, rfl, rfl, hA⟩ := hrel
    obtain rfl | rfl | rfl : k = 0 ∨ k = 1 ∨ k = 2 := by omega
    · have hix := ix0 wr
      obtain ⟨r, hr, hAt⟩ := at_ax s ⟨#[47, 42, 33]⟩ L b W0 W wr p HS.out hA (by omega) hz
      have HAt := mkHid hAt
      have HA := mkHid hA
      clear hAt hA
      go_wp2_with fail
      refine (HAt.out _ (Drw.refl _)).mono ?_
      rintro e w2 ⟨rfl, hd⟩
      have hA2 := HA.out.drw hd
      clear hd HA HAt
      cases r
      · clear hr
        go_wp2_with fail
        go_roundg (2 - 1)
        case measure => omega
        case rel => exact ⟨1, by omega, rfl, rfl, hA2⟩
      · have hp3 : p + 3 ≤ s.size := (hr rfl).1
        have hA3 := hA2.set ((p : Int) + 3) (p + 3) (by omega)
        have c1 := hA2.c1
        have f1 := hA2.f1
        clear hr hA2
        go_wp2_with fail
        clear c1 f1
        go_loopg [] (s.size - (p + 3)) (fun g wr => ∃ j, p < j ∧ j ≤ s.size ∧ g = s.size - j ∧ Ax L b W0 W j wr)
        case atStart => exact ⟨p + 3, by omega, by omega, rfl, hA3⟩
        case round =>
          clear hA3
          obtain ⟨j, hpj, hj, rfl, hA⟩ := hrel
          have c0 := hA.c0 HS.out
          have c1 := hA.c1
          have f1 := hA.f1
          have HA := mkHid hA
          have HA1 := mkHid (hA.set ((j : Int) + 1) (j + 1) (by omega))
          clear hA
          by_cases hjl : j < s.size
          · have d0 : decide ((j : Int) < (s.size : Int)) = true := decide_eq_true (by omega)
            by_cases h48 : 48 ≤ bt s j
            · have d1 : decide (48 ≤ bt s j) = true := decide_eq_true h48
              by_cases h57 : bt s j ≤ 57
              · have d2 : decide (bt s j ≤ 57) = true := decide_eq_true h57
                go_wp2_with fail
                go_quiet (fail)
                go_wp2_with fail
                go_roundg (s.size - (j + 1))
                case measure => omega
                case rel => exact ⟨j + 1, by omega, by omega, rfl, by first | exact HA1.out.drew _ | exact (HA.out.drew _).set _ _ (by omega)⟩
              · have d2 : decide (bt s j ≤ 57) = false := decide_eq_false h57
                go_wp2_with fail
                go_quiet (fail)
                go_wp2_with fail
                go_returns
                exact ⟨rfl, j, hpj, hj, HA.out.drew _⟩
            · have d1 : decide (48 ≤ bt s j) = false := decide_eq_false h48
              go_wp2_with fail
              go_quiet (fail)
              go_wp2_with fail
              go_returns
              exact ⟨rfl, j, hpj, hj, HA.out.drew _⟩
          · have d0 : decide ((j : Int) < (s.size : Int)) = false := decide_eq_false (by omega)
            go_wp2_with fail
            go_quiet (fail)
            go_wp2_with fail
            go_returns
            exact ⟨rfl, j, hpj, hj, HA.out.drew _⟩
    · have hix := ix1 wr
      obtain ⟨r, hr, hAt⟩ := at_ax s ⟨#[47, 42, 77, 33]⟩ L b W0 W wr p HS.out hA (by omega) hz
      have HAt := mkHid hAt
      have HA := mkHid hA
      clear hAt hA
      go_wp2_with fail
      refine (HAt.out _ (Drw.refl _)).mono ?_
      rintro e w2 ⟨rfl, hd⟩
      have hA2 := HA.out.drw hd
      clear hd HA HAt
      cases r
      · clear hr
        go_wp2_with fail
        go_roundg (2 - 2)
        case measure => omega
        case rel => exact ⟨2, by omega, rfl, rfl, hA2⟩
      · have hp3 : p + 4 ≤ s.size := (hr rfl).1
        have hA3 := hA2.set ((p : Int) + 4) (p + 4) (by omega)
        have c1 := hA2.c1
        have f1 := hA2.f1
        clear hr hA2
        go_wp2_with fail
        clear c1 f1
        go_loopg [] (s.size - (p + 4)) (fun g wr => ∃ j, p < j ∧ j ≤ s.size ∧ g = s.size - j ∧ Ax L b W0 W j wr)
        case atStart => exact ⟨p + 4, by omega, by omega, rfl, hA3⟩
        case round =>
          clear hA3
          obtain ⟨j, hpj, hj, rfl, hA⟩ := hrel
          have c0 := hA.c0 HS.out
          have c1 := hA.c1
          have f1 := hA.f1
          have HA := mkHid hA
          have HA1 := mkHid (hA.set ((j : Int) + 1) (j + 1) (by omega))
          clear hA
          by_cases hjl : j < s.size
          · have d0 : decide ((j : Int) < (s.size : Int)) = true := decide_eq_true (by omega)
            by_cases h48 : 48 ≤ bt s j
            · have d1 : decide (48 ≤ bt s j) = true := decide_eq_true h48
              by_cases h57 : bt s j ≤ 57
              · have d2 : decide (bt s j ≤ 57) = true := decide_eq_true h57
                go_wp2_with fail
                go_quiet (fail)
                go_wp2_with fail
                go_roundg (s.size - (j + 1))
                case measure => omega
                case rel => exact ⟨j + 1, by omega, by omega, rfl, by first | exact HA1.out.drew _ | exact (HA.out.drew _).set _ _ (by omega)⟩
              · have d2 : decide (bt s j ≤ 57) = false := decide_eq_false h57
                go_wp2_with fail
                go_quiet (fail)
                go_wp2_with fail
                go_returns
                exact ⟨rfl, j, hpj, hj, HA.out.drew _⟩
            · have d1 : decide (48 ≤ bt s j) = false := decide_eq_false h48
              go_wp2_with fail
              go_quiet (fail)
              go_wp2_with fail
              go_returns
              exact ⟨rfl, j, hpj, hj, HA.out.drew _⟩
          · have d0 : decide ((j : Int) < (s.size : Int)) = false := decide_eq_false (by omega)
            go_wp2_with fail
            go_quiet (fail)
            go_wp2_with fail
            go_returns
            exact ⟨rfl, j, hpj, hj, HA.out.drew _⟩
    · obtain ⟨k, hk, hI⟩ := idx_any (s.extract (p + 2) s.size) ⟨#[42, 47]⟩ m0 (by rw [size_ext s (p + 2) hp]; omega)
      have HI : Hid (∀ w', Drw wr w' → Calls Tryd.prog 36 #[.string (s.extract (p + 2) s.size), .string ⟨#[42, 47]⟩] w' fun e w'' => e = .returned (.int .i64 k) ∧ w'' = w') := fun w' hd => hI w' ((hA.drw hd).m0 HM.out)
      have hr : (s.extract (p + 2) s.size).size = s.size - (p + 2) := size_ext s (p + 2) hp
      have ht : (⟨#[42, 47]⟩ : ByteArray).size = 2 := rfl
      rw [hr, ht] at hk
      have HM0 : Hid (∀ n, (wr.drewN n).cell? ⟨0, 0, none⟩ = some (.int .i64 m0)) := fun n => (hA.drew n).m0 HM.out
      have HI2 : Hid (∀ w', w'.cell? ⟨0, 0, none⟩ = some (.int .i64 m0) → Calls Tryd.prog 36 #[.string (s.extract (p + 2) s.size), .string ⟨#[42, 47]⟩] w' fun e w'' => e = .returned (.int .i64 k) ∧ w'' = w') := hI
      have m1 := hA.m0 HM.out
      clear hI hr ht
      have c0 := hA.c0 HS.out
      have c1 := hA.c1
      have f1 := hA.f1
      have HA := mkHid hA
      clear hA
      rcases hk with rfl | ⟨m, rfl, hm⟩
      · go_wp2_with fail
        go_quiet ((go_at_call 36; exact Calls.quiet_of_same (HI2.out _ (by first | exact m1 | exact HM0.out _ | assumption))))
        go_wp2_with fail
        go_returns
        exact ⟨rfl, s.size, by omega, Nat.le_refl _, by first | exact (HA.out.drew _).set _ _ rfl | exact (HA.out.set _ _ rfl).drew _⟩
      · go_wp2_with fail
        go_quiet ((go_at_call 36; exact Calls.quiet_of_same (HI2.out _ (by first | exact m1 | exact HM0.out _ | assumption))))
        go_wp2_with fail
        go_returns
        exact ⟨rfl, p + (2 + m + 2), by omega, by omega, by first | exact (HA.out.drew _).set _ _ (by omega) | exact (HA.out.set _ _ (by omega)).drew _⟩
set_option maxRecDepth 100000 in
set_option maxHeartbeats 4000000 in
/-- blockComment, the other kinds. -/
theorem block2 (s : ByteArray) (L : Lx) (b : Nat) (W0 W w : World) (p : Nat) (hs : L.sql = s) (hA : Ax L b W0 W p w) (hp : p + 2 ≤ s.size) (hz : s.size ≤ 1048576) (hk : (L.kind == 3) = false) :
    Calls Tryd.prog 29 #[.pointer (some ⟨b, 0, none⟩)] w fun e w' => e = .returned (.tuple #[]) ∧ ∃ j, p < j ∧ j ≤ s.size ∧ Ax L b W0 W j w' := by
  have c2 := hA.c2
  have HS := mkHid hs
  clear hs
  go_enter Tryd.func29, Tryd.ntmps29
  go_wp2_with fail
  clear c2
  go_loopg [5] (s.size - p) (fun g v wr => ∃ (j : Nat) (d : Int), p ≤ j ∧ j ≤ s.size ∧ g = s.size - j ∧ v = .int .i64 d ∧ Ax L b W0 W j wr)
  case atStart => exact ⟨p, 0, by omega, by omega, rfl, rfl, hA⟩
  case round =>
    clear hA
    obtain ⟨j, d, hpj, hj, rfl, rfl, hA⟩ := hrel
    have c0 := hA.c0 HS.out
    have c1 := hA.c1
    by_cases hjl : j < s.size
    · obtain ⟨r1, hr1, hAt1⟩ := at_ax s ⟨#[47, 42]⟩ L b W0 W wr j HS.out hA (by omega) hz
      obtain ⟨r2, hr2, hAt2⟩ := at_ax s ⟨#[42, 47]⟩ L b W0 W wr j HS.out hA (by omega) hz
      have HA := mkHid hA
      have HAt1 := mkHid hAt1
      have HAt2 := mkHid hAt2
      clear hA hAt1 hAt2
      go_wp2_with fail
      go_quiet (fail)
      go_wp2_with fail
      refine (HAt1.out _ (by first | exact Drw.refl _ | exact ⟨_, rfl⟩)).mono ?_
      rintro e w2 ⟨rfl, hd⟩
      clear c0 c1 HAt1
      cases r1
      · have HD := mkHid hd
        clear hd hr1
        go_wp2_with fail
        refine (HAt2.out _ HD.out).mono ?_
        rintro e w3 ⟨rfl, hd⟩
        clear HD HAt2
        have hA3 := HA.out.drw hd
        have c1 := hA3.c1
        have f1 := hA3.f1
        have HA3 := mkHid hA3
        clear hd hA3 HA
        cases r2
        · go_wp2_with fail
          go_roundg (s.size - (j + 1))
          case measure => omega
          case rel => exact ⟨j + 1, d, by omega, by omega, rfl, rfl, HA3.out.set _ _ (by omega)⟩
        · have h2 : j + 2 ≤ s.size := (hr2 rfl).1
          go_wp2_with fail
          all_goals first
            | (go_returns; exact ⟨rfl, j + 2, by omega, by omega, HA3.out.set _ _ (by omega)⟩)
            | (go_roundg (s.size - (j + 2))
               case measure => omega
               case rel => exact ⟨j + 2, _, by omega, by omega, rfl, rfl, HA3.out.set _ _ (by omega)⟩)
      · have h2 : j + 2 ≤ s.size := (hr1 rfl).1
        have hA2 := HA.out.drw hd
        have c1 := hA2.c1
        have f1 := hA2.f1
        have HA2 := mkHid hA2
        clear hd hA2 HA HAt2 hr1
        go_wp2_with fail
        go_roundg (s.size - (j + 2))
        case measure => omega
        case rel => exact ⟨j + 2, _, by omega, by omega, rfl, rfl, HA2.out.set _ _ (by omega)⟩
    · have HA := mkHid hA
      clear hA
      go_wp2_with fail
      go_quiet (fail)
      go_wp2_with fail
      go_returns
      exact ⟨rfl, j, by omega, hj, HA.out.drew _⟩

theorem block_any (s : ByteArray) (L : Lx) (b : Nat) (W0 W w : World) (p : Nat) (m0 : Int) (hm : W0.cell? ⟨0, 0, none⟩ = some (.int .i64 m0)) (hs : L.sql = s) (hA : Ax L b W0 W p w) (hp : p + 2 ≤ s.size) (hz : s.size ≤ 1048576) :
    Calls Tryd.prog 29 #[.pointer (some ⟨b, 0, none⟩)] w fun e w' => e = .returned (.tuple #[]) ∧ ∃ j, p < j ∧ j ≤ s.size ∧ Ax L b W0 W j w' := by
  cases hk : (L.kind == 3)
  · exact block2 s L b W0 W w p hs hA hp hz hk
  · exact block3 s L b W0 W w p m0 hm hs hA hp hz hk
end Go.Proofs.Qxb6603871aDoor
