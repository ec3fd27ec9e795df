import Derived.Test.Qxb6603394aDoorProg
import Derived.WalkKit
import Derived.WalkSpells
import Derived.WalkLawsBesides
import Derived.PlainAid
import Derived.Deep.DeepCutAuto
set_option linter.unusedVariables false
set_option linter.unusedSimpArgs false
namespace Go.Proofs.Qxb6603394aDoor
open Go.RowKit Go.PlainAid

set_option maxRecDepth 100000 in
set_option maxHeartbeats 1000000 in
theorem slashes_any (s : ByteArray) (w : World) (hs : s.size ≤ 256) :
    Calls Tryd.prog 8 #[.string s] w fun e w' => (∃ r : Int, e = .returned (.int .i64 r)) ∧ w' = w := by
  have hb1 := get_bt s
  go_enter Tryd.func8, Tryd.ntmps8
  go_wp2
  go_loop [3, 4] (fun n i => ∃ a k : Nat, a ≤ k ∧ k ≤ s.size ∧ n = .int .i64 a ∧ i = .int .i64 k) (fun _ i => s.size - (intOf i).toNat)
  case atStart => exact ⟨0, 0, Nat.le_refl _, Nat.zero_le _, rfl, rfl⟩
  case round =>
    obtain ⟨a, k, h1, h2, rfl, rfl⟩ := hrel
    by_cases hk : k < s.size
    · by_cases h47 : bt s k = 47
      · have g : (bt s k == 47) = true := by simp [h47]
        clear h47
        go_wp2
        go_round
        case rel => exact ⟨a + 1, k + 1, by omega, by omega, by go_num, by go_num⟩
        case measure => simp [intOf]; omega
      · have g : (bt s k == 47) = false := by simp [h47]
        clear h47
        go_wp2
        go_round
        case rel => exact ⟨a, k + 1, by omega, by omega, by go_num, by go_num⟩
        case measure => simp [intOf]; omega
    · go_wp2
      go_ret
      exact ⟨⟨_, rfl⟩, rfl⟩

set_option maxRecDepth 100000 in
set_option maxHeartbeats 1000000 in
theorem runs_any (p : ByteArray) (w : World) (hp : p.size ≤ 256) :
    Calls Tryd.prog 7 #[.string p] w fun e w' => (∃ r : Int, e = .returned (.int .i64 r)) ∧ w' = w := by
  have hb1 := get_bt p
  go_enter Tryd.func7, Tryd.ntmps7
  go_wp2
  go_loopg [3, 4] p.size (fun g n i wr => ∃ a k : Nat, a ≤ k ∧ k ≤ p.size ∧ g = p.size - k ∧ n = .int .i64 a ∧ i = .int .i64 k ∧ wr = w)
  case atStart => exact ⟨0, 0, Nat.le_refl _, Nat.zero_le _, rfl, rfl, rfl, rfl⟩
  case round =>
    obtain ⟨a, k, h1, h2, rfl, rfl, rfl, rfl⟩ := hrel
    by_cases hk : k < p.size
    · by_cases h42 : bt p k = 42
      · have g : (bt p k == 42) = true := by simp [h42]
        go_wp2
        go_loopg [5] (p.size - k) (fun g v wi => ∃ x : Nat, k ≤ x ∧ x ≤ p.size ∧ g = p.size - x ∧ v = .int .i64 x ∧ wi = wr)
        case atStart => exact ⟨k, Nat.le_refl _, h2, rfl, rfl, rfl⟩
        case round =>
          obtain ⟨x, x1, x2, rfl, rfl, rfl⟩ := hrel
          by_cases hx : x < p.size ∧ bt p x = 42
          · obtain ⟨hx, hx2⟩ := hx
            have g2 : (bt p x == 42) = true := by simp [hx2]
            clear hx2 g h42
            go_wp2
            go_roundg (p.size - (x + 1))
            case measure => omega
            case rel => exact ⟨x + 1, by omega, by omega, rfl, by go_num, rfl⟩
          · have hxk : k < x := by
              by_cases e : x = k
              · subst e; exact absurd ⟨hk, h42⟩ hx
              · omega
            by_cases hx2 : x < p.size
            · have g2 : (bt p x == 42) = false := by
                have : ¬ bt p x = 42 := fun e => hx ⟨hx2, e⟩
                simp [this]
              clear hx g h42
              by_cases h3 : 1 < x - k
              · have h3' : (1 : Int) < (x : Int) - (k : Int) := by omega
                go_wp2
                go_roundg (p.size - x)
                case measure => omega
                case rel => exact ⟨a + 1, x, by omega, by omega, rfl, by go_num, rfl, rfl⟩
              · have h3' : ¬ (1 : Int) < (x : Int) - (k : Int) := by omega
                go_wp2
                go_roundg (p.size - x)
                case measure => omega
                case rel => exact ⟨a, x, by omega, by omega, rfl, by go_num, rfl, rfl⟩
            · clear hx g h42
              by_cases h3 : 1 < x - k
              · have h3' : (1 : Int) < (x : Int) - (k : Int) := by omega
                go_wp2
                go_roundg (p.size - x)
                case measure => omega
                case rel => exact ⟨a + 1, x, by omega, by omega, rfl, by go_num, rfl, rfl⟩
              · have h3' : ¬ (1 : Int) < (x : Int) - (k : Int) := by omega
                go_wp2
                go_roundg (p.size - x)
                case measure => omega
                case rel => exact ⟨a, x, by omega, by omega, rfl, by go_num, rfl, rfl⟩
      · have g : (bt p k == 42) = false := by simp [h42]
        clear h42
        go_wp2
        go_roundg (p.size - (k + 1))
        case measure => omega
        case rel => exact ⟨a, k + 1, by omega, by omega, rfl, by go_num, by go_num, rfl⟩
    · go_wp2
      go_ret
      exact ⟨⟨_, rfl⟩, rfl⟩
end Go.Proofs.Qxb6603394aDoor
