import Derived.Test.Qxb6603871aDoorNw
set_option linter.unusedVariables false
set_option linter.unusedSimpArgs false
namespace Go.Proofs.Qxb6603871aDoor
open Go.RowKit Go.PlainAid

/-- May this byte stand in a word? -/
def wd (c : Int) : Bool := wb c || c == 36
theorem LexAt.drewN {w : World} {b : Nat} {L : Lx} (h : LexAt w b L) (hlt : b < w.heap.size) (n : Nat) : LexAt (w.drewN n) b L := h.below hlt (below_drewN (Below.refl _ _) n)

set_option maxRecDepth 100000 in
set_option maxHeartbeats 1000000 in
theorem word_any (s : ByteArray) (L : Lx) (p b : Nat) (W0 W w : World) (hL : LexAt w b L) (hT : Tk W0 W b w) (hs : L.sql = s) (hi : L.i = p) (hp : p ≤ s.size) (hz : s.size ≤ 1048576) :
    Calls Tryd.prog 32 #[.pointer (some ⟨b, 0, none⟩)] w fun e w' => ∃ j, p ≤ j ∧ j ≤ s.size ∧ (∀ k, p ≤ k → k < j → wd (bt s k) = true) ∧ (j < s.size → wd (bt s j) = false) ∧ e = .returned (.string (s.extract p j)) ∧ LexAt w' b { L with i := j } ∧ Tk W0 W b w' := by
  have HWs : Hid (∀ c w, 0 ≤ c → c ≤ 255 → Calls Tryd.prog 31 #[.int .u8 c] w fun e w' => e = .returned (.bool (wb c)) ∧ w' = w) := fun c w h0 h1 => ws_any c w h0 h1 _ rfl
  have hL0 : LexAt w b { L with i := (p : Int) } := by rw [← hi]; exact hL
  have c1 := hL0.c1
  simp only at c1
  go_enter Tryd.func32, Tryd.ntmps32
  go_wp2_with fail
  clear c1
  go_loopg [] (s.size - p) (fun g wr => ∃ j, p ≤ j ∧ j ≤ s.size ∧ g = s.size - j ∧ Hid (∀ k, p ≤ k → k < j → wd (bt s k) = true) ∧ LexAt wr b { L with i := (j : Int) } ∧ Tk W0 W b wr)
  case atStart => exact ⟨p, Nat.le_refl _, hp, rfl, fun k h1 h2 => by omega, hL0, hT⟩
  case round =>
    clear hL0 hL hT
    obtain ⟨j, hpj, hj, rfl, HJ, hL, hT⟩ := hrel
    have hbt := get_bt s
    have hLt := hT.lt
    obtain ⟨c0, c1, _, _, _, _, _, _, _, _, f⟩ := id hL
    simp only [hs] at c0 c1
    have f1 := f 1
    clear f
    have HL' := mkHid (hL.set1 ((j : Int) + 1))
    have HT' := mkHid (hT.set (k := 1) (v := .int .i64 ((j : Int) + 1)))
    have HLt' := mkHid HT'.out.lt
    by_cases hjl : j < s.size
    · have hn0 := bt_nonneg s j
      have hn1 := bt_le s j
      cases hwb : wb (bt s j)
      · have HW1 : Hid (∀ w, Calls Tryd.prog 31 #[.int .u8 (bt s j)] w fun e w' => e = .returned (.bool false) ∧ w' = w) := fun w => by
          have := HWs.out (bt s j) w hn0 hn1
          rw [hwb] at this; exact this
        by_cases h36 : bt s j = 36
        · have h36b : (bt s j == 36) = true := by simp [h36]
          have HWd : Hid (wd (bt s j) = true) := by show wd _ = true; unfold wd; rw [hwb, h36b]; rfl
          clear hwb h36 HWs hL hT
          have HJ' : Hid (∀ k, p ≤ k → k < j + 1 → wd (bt s k) = true) := fun k h1 h2 => (by
            by_cases e : k = j
            · rw [e]; exact HWd.out
            · exact HJ.out k h1 (by omega))
          clear HJ
          go_wp2_with fail
          go_quiet ((go_at_call 31; exact Calls.quiet_of_same (HW1.out _)))
          go_wp2_with fail
          go_roundg (s.size - (j + 1))
          case measure => omega
          case rel => exact ⟨j + 1, by omega, by omega, rfl, HJ'.out, HL'.out.drewN HLt'.out _, HT'.out.drew _⟩
        · have h36b : (bt s j == 36) = false := by simp [h36]
          have HWd : Hid (wd (bt s j) = false) := by show wd _ = false; unfold wd; rw [hwb, h36b]; rfl
          clear hwb h36 HWs HL' HT' HLt'
          go_wp2_with fail
          go_quiet ((go_at_call 31; exact Calls.quiet_of_same (HW1.out _)))
          have HL2 := mkHid hL
          have HT2 := mkHid hT
          clear hL hT
          go_wp2_with fail
          go_quiet (fail)
          go_wp2_with fail
          go_ret
          exact ⟨j, hpj, hj, HJ.out, fun _ => HWd.out, rfl, by rw [World.drewN_drewN]; exact HL2.out.drewN hLt _, by rw [World.drewN_drewN]; exact HT2.out.drew _⟩
      · have HW1 : Hid (∀ w, Calls Tryd.prog 31 #[.int .u8 (bt s j)] w fun e w' => e = .returned (.bool true) ∧ w' = w) := fun w => by
          have := HWs.out (bt s j) w hn0 hn1
          rw [hwb] at this; exact this
        have HWd : Hid (wd (bt s j) = true) := by show wd _ = true; unfold wd; rw [hwb]; rfl
        clear hwb HWs hL hT
        have HJ' : Hid (∀ k, p ≤ k → k < j + 1 → wd (bt s k) = true) := fun k h1 h2 => (by
          by_cases e : k = j
          · rw [e]; exact HWd.out
          · exact HJ.out k h1 (by omega))
        clear HJ
        go_wp2_with fail
        go_quiet ((go_at_call 31; exact Calls.quiet_of_same (HW1.out _)))
        go_wp2_with fail
        go_roundg (s.size - (j + 1))
        case measure => omega
        case rel => exact ⟨j + 1, by omega, by omega, rfl, HJ'.out, HL'.out.drewN HLt'.out _, HT'.out.drew _⟩
    · obtain rfl : j = s.size := by omega
      clear HL' HT' HLt' HWs
      have HL2 := mkHid hL
      have HT2 := mkHid hT
      clear hL hT
      go_wp2_with fail
      go_quiet (fail)
      go_wp2_with fail
      go_quiet (fail)
      go_wp2_with fail
      go_ret
      exact ⟨s.size, hpj, hj, HJ.out, fun h => absurd h (Nat.lt_irrefl _), rfl, by rw [World.drewN_drewN]; exact HL2.out.drewN hLt _, by rw [World.drewN_drewN]; exact HT2.out.drew _⟩
end Go.Proofs.Qxb6603871aDoor
