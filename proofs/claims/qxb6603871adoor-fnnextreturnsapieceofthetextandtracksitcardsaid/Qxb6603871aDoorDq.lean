import Derived.Test.Qxb6603871aDoorSk
import Derived.Lib.CutLaws
set_option linter.unusedVariables false
set_option linter.unusedSimpArgs false
namespace Go.Proofs.Qxb6603871aDoor
open Go.RowKit Go.PlainAid

/-- strings.Index, in whatever world that holds MaxLen. -/
theorem idx_any (x t : ByteArray) (m0 : Int) (hx : x.size ≤ 1048576) :
    ∃ k : Int, (k = -1 ∨ ∃ m : Nat, k = m ∧ m + t.size ≤ x.size) ∧ ∀ w : World, w.cell? ⟨0, 0, none⟩ = some (.int .i64 m0) → Calls Tryd.prog 36 #[.string x, .string t] w fun e w' => e = .returned (.int .i64 k) ∧ w' = w :=
  ⟨Lib.indexB x t, Lib.indexB_cases x t, fun w hm => Tryd.strings_Index x t m0 w (by omega) hm⟩
theorem Ax.m0 {L : Lx} {b : Nat} {W0 W w : World} {j : Nat} {m0 : Int} (h : Ax L b W0 W j w) (hm : W0.cell? ⟨0, 0, none⟩ = some (.int .i64 m0)) : w.cell? ⟨0, 0, none⟩ = some (.int .i64 m0) :=
  (h.tk.bel.cell (p := ⟨0, 0, none⟩) (World.block_lt_of_cell? W0 _ hm)).trans hm

set_option maxRecDepth 100000 in
set_option maxHeartbeats 4000000 in
theorem dollar_any (s : ByteArray) (L : Lx) (b : Nat) (W0 W w : World) (p : Nat) (m0 : Int) (hm : W0.cell? ⟨0, 0, none⟩ = some (.int .i64 m0)) (hs : L.sql = s) (hA : Ax L b W0 W p w) (hp : p < s.size) (hz : s.size ≤ 1048576) :
    Calls Tryd.prog 30 #[.pointer (some ⟨b, 0, none⟩)] w fun e w' => e = .returned (.tuple #[]) ∧ ∃ j, p < j ∧ j ≤ s.size ∧ Ax L b W0 W j w' := by
  have HWs : Hid (∀ c w, 0 ≤ c → c ≤ 255 → Calls Tryd.prog 31 #[.int .u8 c] w fun e w' => e = .returned (.bool (wb c)) ∧ w' = w) := fun c w h0 h1 => ws_any c w h0 h1 _ rfl
  have c0 := hA.c0 hs
  have c1 := hA.c1
  have f1 := hA.f1
  have HA := mkHid hA
  have HM := mkHid hm
  have HS := mkHid hs
  have hbt := get_bt s
  clear hA hm hs
  go_enter Tryd.func30, Tryd.ntmps30
  go_wp2_with fail
  go_loopg [2] (s.size - (p + 1)) (fun g v wr => ∃ j : Nat, p < j ∧ j ≤ s.size ∧ g = s.size - j ∧ v = .int .i64 j ∧ w = wr)
  case atStart => exact ⟨p + 1, by omega, by omega, rfl, by go_num, rfl⟩
  case round =>
    obtain ⟨j, hpj, hj, rfl, rfl, rfl⟩ := hrel
    have HA1 := mkHid (HA.out.set ((p : Int) + 1) (p + 1) (by omega))
    by_cases hjl : j < s.size
    · have hn0 := bt_nonneg s j
      have hn1 := bt_le s j
      go_wp2_with fail
      refine (HWs.out _ _ hn0 hn1).mono ?_
      rintro e w2 ⟨rfl, hw2⟩
      subst hw2
      cases hwb : wb (bt s j)
      · have e1 : ((j : Int) == (s.size : Int)) = false := beq_eq_false_iff_ne.2 (by omega)
        cases h36 : (bt s j == 36)
        · go_wp2_with fail
          go_returns
          exact ⟨rfl, p + 1, by omega, by omega, HA1.out⟩
        · obtain ⟨k, hk, hI⟩ := idx_any (s.extract (j + 1) s.size) (s.extract p (j + 1)) m0 (by rw [size_ext s (j + 1) (by omega)]; omega)
          have HI : Hid (∀ w', Drw w2 w' → Calls Tryd.prog 36 #[.string (s.extract (j + 1) s.size), .string (s.extract p (j + 1))] w' fun e w'' => e = .returned (.int .i64 k) ∧ w'' = w') := fun w' hd => hI w' ((HA.out.drw hd).m0 HM.out)
          have hq : (s.extract p (j + 1)).size = j + 1 - p := by simp [ByteArray.size_extract]; omega
          have hr : (s.extract (j + 1) s.size).size = s.size - (j + 1) := size_ext s (j + 1) (by omega)
          rw [hq, hr] at hk
          clear hI hr
          rcases hk with rfl | ⟨m, rfl, hm⟩
          · have HA2 := mkHid (HA.out.set (s.size : Int) s.size rfl)
            go_wp2_with fail
            go_quiet (fail)
            go_wp2_with fail
            refine (HI.out _ (by first | exact Drw.refl _ | exact ⟨_, rfl⟩)).mono ?_
            rintro e w3 ⟨rfl, hw3⟩
            subst hw3
            go_wp2_with fail
            go_returns
            exact ⟨rfl, s.size, hp, Nat.le_refl _, by first | exact HA2.out.drew _ | exact HA2.out⟩
          · skip
            go_wp2_with fail
            go_quiet (fail)
            go_wp2_with fail
            refine (HI.out _ (by first | exact Drw.refl _ | exact ⟨_, rfl⟩)).mono ?_
            rintro e w3 ⟨rfl, hw3⟩
            subst hw3
            go_wp2_with fail
            go_returns
            exact ⟨rfl, j + 1 + m + (j + 1 - p), by omega, by omega, by first | exact (HA.out.drew _).set _ _ (by omega) | exact (HA.out.set _ _ (by omega)).drew _⟩
      · go_wp2_with fail
        go_roundg (s.size - (j + 1))
        case measure => omega
        case rel => exact ⟨j + 1, by omega, by omega, rfl, by go_num, rfl⟩
    · obtain rfl : j = s.size := by omega
      go_wp2_with fail
      go_returns
      exact ⟨rfl, p + 1, by omega, by omega, HA1.out⟩
end Go.Proofs.Qxb6603871aDoor
