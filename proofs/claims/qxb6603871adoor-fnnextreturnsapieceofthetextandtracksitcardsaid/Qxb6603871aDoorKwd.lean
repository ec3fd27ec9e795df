import Derived.Test.Qxb6603871aDoorTrk
set_option linter.unusedVariables false
set_option linter.unusedSimpArgs false
namespace Go.Proofs.Qxb6603871aDoor
open Go.RowKit Go.PlainAid

/-- Nothing but draws has happened. -/
def Drw (w w' : World) : Prop := ∃ m, w' = w.drewN m
theorem Drw.refl (w : World) : Drw w w := ⟨0, (World.drewN_zero w).symm⟩
theorem Drw.trans {a b c : World} (h : Drw a b) (g : Drw b c) : Drw a c := by
  obtain ⟨m, rfl⟩ := h; obtain ⟨k, rfl⟩ := g; exact ⟨m + k, World.drewN_drewN _ _ _⟩
theorem Drw.drew {a b : World} (h : Drw a b) (n : Nat) : Drw a (b.drewN n) := h.trans ⟨n, rfl⟩
theorem Drw.below {a b : World} (h : Drw a b) : Below a.heap.size a b := by obtain ⟨m, rfl⟩ := h; exact below_drewN (Below.refl _ _) m

set_option maxHeartbeats 1000000 in
theorem hasat_any (s t : ByteArray) (p : Nat) (w : World) (hs : s.size ≤ 1048576) (ht : t.size ≤ 16) (hp : p ≤ 1048676) (r : Bool)
    (HR : Hid (r = decide (p + t.size ≤ s.size ∧ ∀ k, k < t.size → bt s (p + k) = bt t k))) :
    Calls Tryd.prog 24 #[.string s, .int .i64 p, .string t] w fun e w' => e = .returned (.bool r) ∧ Drw w w' := by
  have hb1 := get_bt s
  have hb2 := get_bt t
  by_cases h1 : p + t.size ≤ s.size
  · have h2 : p ≤ s.size := by omega
    go_enter Tryd.func24, Tryd.ntmps24
    go_wp2
    go_loopg [7] t.size (fun g v wr => ∃ k : Nat, k ≤ t.size ∧ g = t.size - k ∧ v = .int .i64 k ∧ Hid (∀ j, j < k → bt s (p + j) = bt t j) ∧ Drw w wr)
    case atStart => exact ⟨0, Nat.zero_le _, rfl, rfl, fun j h => absurd h (by omega), Drw.refl _⟩
    case round =>
      obtain ⟨k, hk, rfl, rfl, HJ, HB⟩ := hrel
      replace HB := mkHid HB
      by_cases hkt : k < t.size
      · by_cases he : bt s (p + k) = bt t k
        · go_wp2_with (first | go_quiet (fail) | go_in)
          go_roundg (t.size - (k + 1))
          case measure => omega
          case rel => exact ⟨k + 1, by omega, rfl, by go_num, fun j hj => (by
            by_cases e : j = k
            · rw [e]; exact he
            · exact HJ.out j (by omega)), HB.out.drew _⟩
        · obtain rfl : r = false := by rw [HR.out]; exact decide_eq_false (fun e => he (e.2 k hkt))
          go_wp2_with (first | go_quiet (fail) | go_in)
          go_ret
          exact ⟨rfl, HB.out.drew _⟩
      · obtain rfl : k = t.size := by omega
        obtain rfl : r = true := by rw [HR.out]; exact decide_eq_true ⟨h1, HJ.out⟩
        go_wp2
        go_ret
        exact ⟨rfl, HB.out⟩
  · obtain rfl : r = false := by rw [HR.out]; exact decide_eq_false (fun e => h1 e.1)
    go_enter Tryd.func24, Tryd.ntmps24
    go_wp2
    all_goals (go_ret; exact ⟨rfl, Drw.refl _⟩)

set_option maxRecDepth 100000 in
set_option maxHeartbeats 4000000 in
theorem kwd_any (s t : ByteArray) (w : World) (hs : s.size ≤ 1048576) (ht : kwOk t) (r : Bool) (HR : Hid (r = kw s t)) :
    Calls Tryd.prog 17 #[.string s, .string t] w fun e w' => e = .returned (.bool r) ∧ Drw w w' := by
  have hb1 := get_bt s
  have hb2 := get_bt t
  obtain ⟨ht, hc⟩ := ht
  have HK : Hid (∀ p : Nat, p ≤ 1048576 → ∀ r, r = decide (bt s p = 226 ∧ bt s (p + 1) = 132 ∧ bt s (p + 2) = 170) → ∀ w, Calls Tryd.prog 24 #[.string s, .int .i64 p, .string ⟨#[226, 132, 170]⟩] w fun e w' => e = .returned (.bool r) ∧ Drw w w') := by
    intro p hp r hr w
    refine hasat_any s ⟨#[226, 132, 170]⟩ p w hs (by decide) (by omega) r ?_
    show r = _
    rw [hr]
    apply decide_eq_decide.2
    have e : (ByteArray.mk #[226, 132, 170]).size = 3 := rfl
    rw [e]
    constructor
    · intro hh
      have l2 : p + 2 < s.size := bt_lt (by omega)
      refine ⟨by omega, fun k hk => ?_⟩
      obtain rfl | rfl | rfl : k = 0 ∨ k = 1 ∨ k = 2 := by omega
      · exact hh.1
      · exact hh.2.1
      · exact hh.2.2
    · rintro ⟨a, b⟩
      exact ⟨b 0 (by omega), b 1 (by omega), b 2 (by omega)⟩
  have HS : Hid (∀ p : Nat, p ≤ 1048576 → ∀ r, r = decide (bt s p = 197 ∧ bt s (p + 1) = 191) → ∀ w, Calls Tryd.prog 24 #[.string s, .int .i64 p, .string ⟨#[197, 191]⟩] w fun e w' => e = .returned (.bool r) ∧ Drw w w') := by
    intro p hp r hr w
    refine hasat_any s ⟨#[197, 191]⟩ p w hs (by decide) (by omega) r ?_
    show r = _
    rw [hr]
    apply decide_eq_decide.2
    have e : (ByteArray.mk #[197, 191]).size = 2 := rfl
    rw [e]
    constructor
    · intro hh
      have l2 : p + 1 < s.size := bt_lt (by omega)
      refine ⟨by omega, fun k hk => ?_⟩
      obtain rfl | rfl : k = 0 ∨ k = 1 := by omega
      · exact hh.1
      · exact hh.2
    · rintro ⟨a, b⟩
      exact ⟨b 0 (by omega), b 1 (by omega)⟩
  go_enter Tryd.func17, Tryd.ntmps17
  go_wp2
  go_loopg [5, 6] t.size (fun g v5 v6 wr => ∃ k p : Nat, k ≤ t.size ∧ p ≤ s.size ∧ g = t.size - k ∧ v5 = .int .i64 p ∧ v6 = .int .i64 k ∧ Hid (r = kwS s t k p) ∧ Drw w wr)
  case atStart => exact ⟨0, 0, Nat.zero_le _, Nat.zero_le _, rfl, rfl, rfl, HR.out, Drw.refl _⟩
  case round =>
    clear HR
    obtain ⟨k, p, hk, hp, rfl, rfl, rfl, HI, HB⟩ := hrel
    replace HB := mkHid HB
    by_cases hkt : k < t.size
    · have hck := hc k hkt
      obtain ⟨hc1, hc2⟩ := hck
      have b0 := bt_le s p
      have b1 := bt_nonneg s p
      by_cases he : p < s.size ∧ (bt s p = bt t k ∨ bt s p = bt t k + 32)
      · have HI2 := mkHid (HI.out.trans (kwS_yes hkt he.1 he.2))
        obtain ⟨hps, he | he⟩ := he
        · have t1 : (bt s p == bt t k) = true := beq_iff_eq.2 he
          go_wp2
          go_roundg (t.size - (k + 1))
          case measure => omega
          case rel => exact ⟨k + 1, p + 1, by omega, by omega, rfl, by go_num, by go_num, HI2.out, HB.out⟩
        · have t1 : (bt s p == bt t k) = false := by rw [he]; exact beq_eq_false_iff_ne.2 (by omega)
          have t2 : (bt s p == bt t k + 32) = true := beq_iff_eq.2 he
          go_wp2
          go_roundg (t.size - (k + 1))
          case measure => omega
          case rel => exact ⟨k + 1, p + 1, by omega, by omega, rfl, by go_num, by go_num, HI2.out, HB.out⟩
      · by_cases h75 : bt t k = 75
        · by_cases hm : bt s p = 226 ∧ bt s (p + 1) = 132 ∧ bt s (p + 2) = 170
          · have hl : p + 2 < s.size := bt_lt (by omega)
            have HI2 := mkHid (HI.out.trans (kwS_K hkt h75 hm.1 hm.2.1 hm.2.2))
            have hps : p < s.size := by omega
            have t1 : (bt s p == bt t k) = false := beq_eq_false_iff_ne.2 (by omega)
            have t2 : (bt s p == bt t k + 32) = false := beq_eq_false_iff_ne.2 (by omega)
            have t3 : (bt t k == 75) = true := beq_iff_eq.2 h75
            have HC := mkHid (fun w => HK.out p (by omega) true (decide_eq_true hm).symm w)
            clear h75 hm he hc1 hc2
            go_wp2_with fail
            refine (HC.out _).mono ?_
            rintro e w2 ⟨rfl, hb2⟩
            have HB2 := mkHid (HB.out.trans hb2)
            go_wp2
            go_roundg (t.size - (k + 1))
            case measure => omega
            case rel => exact ⟨k + 1, p + 3, by omega, by omega, rfl, by go_num, by go_num, HI2.out, HB2.out⟩
          · have HI2 : Hid (r = false) := HI.out.trans (by
              rw [kwS_step hkt, if_neg he, if_neg (by omega), if_neg (by omega)])
            obtain rfl := HI2.out
            have t3 : (bt t k == 75) = true := beq_iff_eq.2 h75
            have HC := mkHid (fun w => HK.out p (by omega) false (decide_eq_false hm).symm w)
            have n83 : (bt t k == 83) = false := beq_eq_false_iff_ne.2 (by omega)
            by_cases hps : p < s.size
            · have t1 : (bt s p == bt t k) = false := beq_eq_false_iff_ne.2 (fun e => he ⟨hps, .inl e⟩)
              have t2 : (bt s p == bt t k + 32) = false := beq_eq_false_iff_ne.2 (fun e => he ⟨hps, .inr e⟩)
              clear h75 hm he
              go_wp2_with fail
              refine (HC.out _).mono ?_
              rintro e w2 ⟨rfl, hb2⟩
              have HB2 := mkHid (HB.out.trans hb2)
              go_wp2
              go_ret
              exact ⟨rfl, HB2.out⟩
            · clear h75 hm he
              go_wp2_with fail
              refine (HC.out _).mono ?_
              rintro e w2 ⟨rfl, hb2⟩
              have HB2 := mkHid (HB.out.trans hb2)
              go_wp2
              go_ret
              exact ⟨rfl, HB2.out⟩
        · by_cases h83 : bt t k = 83
          · by_cases hm : bt s p = 197 ∧ bt s (p + 1) = 191
            · have hl : p + 1 < s.size := bt_lt (by omega)
              have HI2 := mkHid (HI.out.trans (kwS_S hkt h83 hm.1 hm.2))
              have hps : p < s.size := by omega
              have t1 : (bt s p == bt t k) = false := beq_eq_false_iff_ne.2 (by omega)
              have t2 : (bt s p == bt t k + 32) = false := beq_eq_false_iff_ne.2 (by omega)
              have t3 : (bt t k == 83) = true := beq_iff_eq.2 h83
              have n75 : (bt t k == 75) = false := beq_eq_false_iff_ne.2 (by omega)
              have HC := mkHid (fun w => HS.out p (by omega) true (decide_eq_true hm).symm w)
              clear h83 hm he hc1 hc2
              go_wp2_with fail
              refine (HC.out _).mono ?_
              rintro e w2 ⟨rfl, hb2⟩
              have HB2 := mkHid (HB.out.trans hb2)
              go_wp2
              go_roundg (t.size - (k + 1))
              case measure => omega
              case rel => exact ⟨k + 1, p + 2, by omega, by omega, rfl, by go_num, by go_num, HI2.out, HB2.out⟩
            · have HI2 : Hid (r = false) := HI.out.trans (by
                rw [kwS_step hkt, if_neg he, if_neg (by omega), if_neg (by omega)])
              obtain rfl := HI2.out
              have t3 : (bt t k == 83) = true := beq_iff_eq.2 h83
              have n75 : (bt t k == 75) = false := beq_eq_false_iff_ne.2 (by omega)
              have HC := mkHid (fun w => HS.out p (by omega) false (decide_eq_false hm).symm w)
              by_cases hps : p < s.size
              · have t1 : (bt s p == bt t k) = false := beq_eq_false_iff_ne.2 (fun e => he ⟨hps, .inl e⟩)
                have t2 : (bt s p == bt t k + 32) = false := beq_eq_false_iff_ne.2 (fun e => he ⟨hps, .inr e⟩)
                clear h83 hm he
                go_wp2_with fail
                refine (HC.out _).mono ?_
                rintro e w2 ⟨rfl, hb2⟩
                have HB2 := mkHid (HB.out.trans hb2)
                go_wp2
                go_ret
                exact ⟨rfl, HB2.out⟩
              · clear h83 hm he
                go_wp2_with fail
                refine (HC.out _).mono ?_
                rintro e w2 ⟨rfl, hb2⟩
                have HB2 := mkHid (HB.out.trans hb2)
                go_wp2
                go_ret
                exact ⟨rfl, HB2.out⟩
          · have HI2 : Hid (r = false) := HI.out.trans (by
              rw [kwS_step hkt, if_neg he, if_neg (by omega), if_neg (by omega)])
            obtain rfl := HI2.out
            have n75 : (bt t k == 75) = false := beq_eq_false_iff_ne.2 h75
            have n83 : (bt t k == 83) = false := beq_eq_false_iff_ne.2 h83
            by_cases hps : p < s.size
            · have t1 : (bt s p == bt t k) = false := beq_eq_false_iff_ne.2 (fun e => he ⟨hps, .inl e⟩)
              have t2 : (bt s p == bt t k + 32) = false := beq_eq_false_iff_ne.2 (fun e => he ⟨hps, .inr e⟩)
              clear h75 h83 he
              go_wp2
              go_ret
              exact ⟨rfl, HB.out⟩
            · clear h75 h83 he
              go_wp2
              go_ret
              exact ⟨rfl, HB.out⟩
    · obtain rfl : k = t.size := by omega
      replace HI := mkHid (HI.out.trans (kwS_end (Nat.le_refl _)))
      by_cases hps : p = s.size
      · obtain rfl : r = true := by rw [HI.out]; exact decide_eq_true hps
        have t1 : ((p : Int) == (s.size : Int)) = true := beq_iff_eq.2 (by omega)
        go_wp2
        go_ret
        exact ⟨rfl, HB.out⟩
      · obtain rfl : r = false := by rw [HI.out]; exact decide_eq_false hps
        have t1 : ((p : Int) == (s.size : Int)) = false := beq_eq_false_iff_ne.2 (by omega)
        go_wp2
        go_ret
        exact ⟨rfl, HB.out⟩
end Go.Proofs.Qxb6603871aDoor
