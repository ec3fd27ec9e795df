import Derived.Test.Qxb6603394aDoorProg
import Derived.WalkKit
import Derived.WalkSpells
import Derived.WalkLawsBesides
import Derived.PlainAid
import Derived.BigQuiet
set_option linter.unusedVariables false
set_option linter.unusedSimpArgs false
namespace Go.Proofs.Qxb6603394aDoor
open Go.RowKit Go.PlainAid

theorem eq_of_bt {s t : ByteArray} (h : s.size = t.size) (hb : ∀ j, j < t.size → bt s j = bt t j) : s = t := by
  apply ByteArray.ext
  apply Array.ext
  · exact h
  · intro i h1 h2
    have := hb i h2
    unfold bt at this
    rw [dif_pos (show i < s.size from h1), dif_pos (show i < t.size from h2)] at this
    exact UInt8.toNat_inj.1 (by exact_mod_cast this)

theorem ret_bool {a b : Bool} (h : a = b) : Ending.returned (.bool a) = .returned (.bool b) := by rw [h]

set_option maxRecDepth 100000 in
set_option maxHeartbeats 1000000 in
theorem wild_esc (p t s : ByteArray) (b : Bool) (w : World) (hp : p.size = 2 * t.size)
    (hpe : ∀ k, k < t.size → bt p (2 * k) = 92 ∧ bt p (2 * k + 1) = bt t k) (ht : t.size ≤ 65536) (hs : s.size ≤ 65536) :
    Calls Tryd.prog 14 #[.string p, .string s, .bool b] w fun e w' => e = .returned (.bool (decide (s = t))) ∧ ∃ n, w' = w.drewN n := by
  have hpz : p.size ≤ 131072 := by omega
  have HZ : Hid (p.size = 2 * t.size) := hp
  have HP : Hid (∀ k, k < t.size → bt p (2 * k) = 92 ∧ bt p (2 * k + 1) = bt t k) := hpe
  clear hp hpe
  have hb1 := get_bt p
  have hb2 := get_bt s
  go_enter Tryd.func14, Tryd.ntmps14
  go_wp2
  go_loopw [7, 8, 9, 10] (fun px sx st se wr => ∃ i k : Nat, Hid (i = 2 * k) ∧ k ≤ t.size ∧ k ≤ s.size ∧ i ≤ p.size ∧ px = .int .i64 i ∧ sx = .int .i64 k ∧ st = .int .i64 (-1) ∧ se = .int .i64 0 ∧ Hid (∀ j, j < k → bt s j = bt t j) ∧ ∃ n, wr = w.drewN n) (fun _ sx _ _ _ => s.size + 1 - (intOf sx).toNat)
  case atStart => exact ⟨0, 0, rfl, Nat.zero_le _, Nat.zero_le _, Nat.zero_le _, rfl, rfl, rfl, rfl, fun j h => by omega, 0, rfl⟩
  case round =>
    obtain ⟨i, k, HI, hk, hks, hip, rfl, rfl, rfl, rfl, HE, n, rfl⟩ := hrel
    by_cases hkt : k < t.size
    · have hip2 : i + 1 < p.size := by have := HI.out; have := HZ.out; omega
      have hd1 : decide ((i : Int) + 1 < (p.size : Int)) = true := by simp; omega
      have h92 : bt p i = 92 := by rw [HI.out]; exact (HP.out k hkt).1
      have HN : Hid (bt p (i + 1) = bt t k) := by rw [HI.out]; exact (HP.out k hkt).2
      by_cases hss : k < s.size
      · have hd2 : decide ((k : Int) < (s.size : Int)) = true := by simp; omega
        by_cases hc : bt s k = bt t k
        · have HC : Hid (bt s k = bt t k) := hc
          have hc2 : (bt s k == bt p (i + 1)) = true := by rw [HN.out]; simpa using hc
          clear hc
          go_wp2
          go_quiet (fail)
          go_wp2
          go_roundw
          case rel => exact ⟨i + 2, k + 1, by have := HI.out; show i + 2 = 2 * (k + 1); omega, by omega, by omega, by omega, by go_num, by go_num, rfl, rfl, fun j hj => by
            by_cases e : j = k
            · subst e; exact HC.out
            · exact HE.out j (by omega), _, rfl⟩
          case measure => simp [intOf]; omega
        · have HC : Hid (¬ s = t) := fun e => hc (by rw [e])
          have hc2 : (bt s k == bt p (i + 1)) = false := by rw [HN.out]; simpa using hc
          clear hc
          go_wp2
          go_quiet (fail)
          go_wp2
          go_ret
          exact ⟨ret_bool (by simp [HC.out]), _, rfl⟩
      · have HC : Hid (¬ s = t) := fun e => by rw [e] at hss; exact hss hkt
        have hd : decide ((k : Int) < (s.size : Int)) = false := by simp; omega
        go_wp2
        go_quiet (fail)
        go_wp2
        go_ret
        exact ⟨ret_bool (by simp [HC.out]), _, rfl⟩
    · have hip2 : ¬ i < p.size := by have := HI.out; have := HZ.out; omega
      by_cases hss : k < s.size
      · have HC : Hid (¬ s = t) := fun e => by rw [e] at hss; exact hkt hss
        go_wp2
        go_ret
        exact ⟨ret_bool (by simp [HC.out]), _, rfl⟩
      · have HC : Hid (s = t) := eq_of_bt (by omega) fun j hj => HE.out j (by omega)
        go_wp2
        go_ret
        exact ⟨ret_bool (by simp [HC.out]), _, rfl⟩
end Go.Proofs.Qxb6603394aDoor
