import Derived.Test.Qxb6603871aDoorBc
import Derived.Test.Qxb6603871aDoorNx
set_option linter.unusedVariables false
set_option linter.unusedSimpArgs false
namespace Go.Proofs.Qxb6603871aDoor
open Go.RowKit Go.PlainAid

theorem Ax.set9 {L : Lx} {b : Nat} {W0 W w : World} {j : Nat} (h : Ax L b W0 W j w) (v : Bool) : Ax { L with ended := v } b W0 W j (w.setCell ⟨b, 9, none⟩ (.bool v)) := ⟨h.lex.set9 v, h.tk.set⟩
/-- What next hands back and leaves, at whatever text, the statement not ended. -/
def NextR (s : ByteArray) (i : Nat) (L : Lx) (x : ByteArray) (L' : Lx) : Prop :=
  (x = ⟨#[]⟩ ∧ ∃ j : Nat, i ≤ j ∧ j ≤ s.size + 1 ∧ (j = s.size + 1 → bt s (s.size - 1) = 92) ∧ L' = { L with i := (j : Int), ended := true }) ∨
  (∃ st j : Nat, i ≤ st ∧ st < j ∧ j ≤ s.size ∧ x = s.extract st j ∧ ((bt s st = 34 ∧ L.kind = 2) ∨ (bt s st = 96 ∧ L.kind = 3)) ∧ L' = { L with i := (j : Int) }) ∨
  (L.kind = 3 ∧ x = ⟨#[64]⟩ ∧ ∃ j : Nat, i < j ∧ j ≤ s.size ∧ bt s (j - 1) = 64 ∧ L' = { L with i := (j : Int) }) ∨
  (∃ st j : Nat, i ≤ st ∧ st < j ∧ j ≤ s.size ∧ x = s.extract st j ∧ (∀ k, st ≤ k → k < j → wd (bt s k) = true) ∧ (bt s st = 36 → ¬ L.kind = 2) ∧ (j < s.size → wd (bt s j) = false) ∧ L' = { trackF L x with i := (j : Int) })

set_option maxRecDepth 100000 in
set_option maxHeartbeats 20000000 in
theorem next_any (s : ByteArray) (L : Lx) (i b : Nat) (W0 W w : World) (m0 : Int) (hm : W0.cell? ⟨0, 0, none⟩ = some (.int .i64 m0)) (hL : LexAt w b L) (hT : Tk W0 W b w) (hs : L.sql = s) (hi : L.i = i) (hp : i ≤ s.size) (hz : s.size ≤ 1048576) (hpv : L.prev.size ≤ 1048576) (he : L.ended = false) :
    Calls Tryd.prog 21 #[.pointer (some ⟨b, 0, none⟩)] w fun e w' => ∃ x L', e = .returned (.string x) ∧ NextR s i L x L' ∧ LexAt w' b L' ∧ Tk W0 W b w' := by
  have HWs : Hid (∀ c w, 0 ≤ c → c ≤ 255 → Calls Tryd.prog 31 #[.int .u8 c] w fun e w' => e = .returned (.bool (wb c)) ∧ w' = w) := fun c w h0 h1 => ws_any c w h0 h1 _ rfl
  have hA0 : Ax { L with ended := false } b W0 W i w := ⟨hL.eq (by rw [← hi, ← he]), hT⟩
  have HM := mkHid hm
  have HPv := mkHid hpv
  have HEn := mkHid he
  have HS : Hid (({ L with ended := false } : Lx).sql = s) := hs
  clear hpv hi he hL hT hm hs
  go_enter Tryd.func21, Tryd.ntmps21
  go_wp2_with fail
  go_loopg [] (s.size + 1 - i) (fun g wr => ∃ (j : Nat) (en : Bool), i ≤ j ∧ j ≤ s.size + 1 ∧ Hid (j = s.size + 1 → bt s (s.size - 1) = 92) ∧ g = s.size + 1 - j ∧ Ax { L with ended := en } b W0 W j wr)
  case atStart => exact ⟨i, false, Nat.le_refl _, by omega, fun h => by omega, rfl, hA0⟩
  case round =>
    clear hA0
    obtain ⟨j, en, hij, hjs, HJ, rfl, hA⟩ := hrel
    have hbt := get_bt s
    have c0 := hA.c0 (s := s) HS.out
    have c1 := hA.c1
    have c2 := hA.c2
    have f1 := hA.f1
    have c9 : wr.cell? ⟨b, 9, none⟩ = some (.bool en) := hA.lex.c9
    have c7 : wr.cell? ⟨b, 7, none⟩ = some (.int .i64 L.depth) := hA.lex.c7
    have c8 : wr.cell? ⟨b, 8, none⟩ = some (.bool L.body) := hA.lex.c8
    have f9 := hA.lex.f 9
    simp only at c2
    have HE9 := mkHid (hA.set9 true)
    have HA := mkHid hA
    clear hA
    cases en
    · by_cases hjl : j < s.size
      · have hn0 := bt_nonneg s j
        have hn1 := bt_le s j
        have HA1 := mkHid (HA.out.set ((j : Int) + 1) (j + 1) (by omega))
        have HX : Hid (∀ w', Drw wr w' → Ax { L with ended := false } b W0 W j w') := fun w' hd => HA.out.drw hd
        clear HE9
        by_cases h59 : bt s j = 59
        · have hc := h59
          clear h59
          have b59 : (bt s j == 59) = true := by rw [hc]; rfl
          have b39 : (bt s j == 39) = false := by rw [hc]; rfl
          have b34 : (bt s j == 34) = false := by rw [hc]; rfl
          have b96 : (bt s j == 96) = false := by rw [hc]; rfl
          have b64 : (bt s j == 64) = false := by rw [hc]; rfl
          have b45 : (bt s j == 45) = false := by rw [hc]; rfl
          have b35 : (bt s j == 35) = false := by rw [hc]; rfl
          have b47 : (bt s j == 47) = false := by rw [hc]; rfl
          have b36 : (bt s j == 36) = false := by rw [hc]; rfl
          clear hc
          cases hdp : (L.depth == 0)
          · have HA9 := mkHid (HA1.out.set9 false)
            as_aux_lemma =>
              go_wp2_with fail
              go_quiet (fail)
              go_wp2_with fail
              go_quiet (fail)
              go_wp2_with fail
              go_roundg (s.size + 1 - (j + 1))
              case measure => omega
              case rel => exact ⟨j + 1, false, by omega, by omega, fun h => by omega, rfl, by first | exact HA9.out.drew _ | exact (HA9.out.drew _).drew _⟩
          · cases hbd : L.body
            · rw [hbd] at c8
              have HA9 := mkHid (HA1.out.set9 true)
              as_aux_lemma =>
                go_wp2_with fail
                go_quiet (fail)
                go_wp2_with fail
                go_quiet (fail)
                go_wp2_with fail
                go_roundg (s.size + 1 - (j + 1))
                case measure => omega
                case rel => exact ⟨j + 1, true, by omega, by omega, fun h => by omega, rfl, by first | exact HA9.out.drew _ | exact (HA9.out.drew _).drew _⟩
            · rw [hbd] at c8
              have HA9 := mkHid (HA1.out.set9 false)
              as_aux_lemma =>
                go_wp2_with fail
                go_quiet (fail)
                go_wp2_with fail
                go_quiet (fail)
                go_wp2_with fail
                go_roundg (s.size + 1 - (j + 1))
                case measure => omega
                case rel => exact ⟨j + 1, false, by omega, by omega, fun h => by omega, rfl, by first | exact HA9.out.drew _ | exact (HA9.out.drew _).drew _⟩
        · skip
          by_cases h39 : bt s j = 39
          · have hc := h39
            clear h39
            have b59 : (bt s j == 59) = false := by rw [hc]; rfl
            have b39 : (bt s j == 39) = true := by rw [hc]; rfl
            have b34 : (bt s j == 34) = false := by rw [hc]; rfl
            have b96 : (bt s j == 96) = false := by rw [hc]; rfl
            have b64 : (bt s j == 64) = false := by rw [hc]; rfl
            have b45 : (bt s j == 45) = false := by rw [hc]; rfl
            have b35 : (bt s j == 35) = false := by rw [hc]; rfl
            have b47 : (bt s j == 47) = false := by rw [hc]; rfl
            have b36 : (bt s j == 36) = false := by rw [hc]; rfl
            have HC := mkHid hc
            clear hc
            cases hk3 : (L.kind == 3)
            · skip
              as_aux_lemma =>
                go_wp2_with fail
                go_quiet (fail)
                go_wp2_with fail
                go_quiet (fail)
                go_wp2_with fail
                refine (quoted_any s { L with ended := false } b W0 W _ j _ _ HS.out (HX.out _ (by first | exact ⟨_, rfl⟩ | (rw [World.drewN_drewN]; exact ⟨_, rfl⟩))) hjl hz).mono ?_
                rintro e w2 ⟨rfl, j2, hj1, hj2, hj3, hA2⟩
                have HA2 := mkHid hA2
                have H92 := mkHid hj3
                clear hA2 hj3
                go_wp2_with fail
                go_roundg (s.size + 1 - (j2))
                case measure => omega
                case rel => exact ⟨j2, false, by omega, by omega, fun h => (H92.out h).2, rfl, HA2.out⟩
            · skip
              as_aux_lemma =>
                go_wp2_with fail
                go_quiet (fail)
                go_wp2_with fail
                go_quiet (fail)
                go_wp2_with fail
                refine (quoted_any s { L with ended := false } b W0 W _ j _ _ HS.out (HX.out _ (by first | exact ⟨_, rfl⟩ | (rw [World.drewN_drewN]; exact ⟨_, rfl⟩))) hjl hz).mono ?_
                rintro e w2 ⟨rfl, j2, hj1, hj2, hj3, hA2⟩
                have HA2 := mkHid hA2
                have H92 := mkHid hj3
                clear hA2 hj3
                go_wp2_with fail
                go_roundg (s.size + 1 - (j2))
                case measure => omega
                case rel => exact ⟨j2, false, by omega, by omega, fun h => (H92.out h).2, rfl, HA2.out⟩
          · skip
            by_cases h34 : bt s j = 34
            · have hc := h34
              clear h34
              have b59 : (bt s j == 59) = false := by rw [hc]; rfl
              have b39 : (bt s j == 39) = false := by rw [hc]; rfl
              have b34 : (bt s j == 34) = true := by rw [hc]; rfl
              have b96 : (bt s j == 96) = false := by rw [hc]; rfl
              have b64 : (bt s j == 64) = false := by rw [hc]; rfl
              have b45 : (bt s j == 45) = false := by rw [hc]; rfl
              have b35 : (bt s j == 35) = false := by rw [hc]; rfl
              have b47 : (bt s j == 47) = false := by rw [hc]; rfl
              have b36 : (bt s j == 36) = false := by rw [hc]; rfl
              have HC := mkHid hc
              clear hc
              cases hk2 : (L.kind == 2)
              · cases hk3 : (L.kind == 3)
                · skip
                  as_aux_lemma =>
                    go_wp2_with fail
                    go_quiet (fail)
                    go_wp2_with fail
                    go_quiet (fail)
                    go_wp2_with fail
                    refine (quoted_any s { L with ended := false } b W0 W _ j _ _ HS.out (HX.out _ (by first | exact ⟨_, rfl⟩ | (rw [World.drewN_drewN]; exact ⟨_, rfl⟩))) hjl hz).mono ?_
                    rintro e w2 ⟨rfl, j2, hj1, hj2, hj3, hA2⟩
                    have HA2 := mkHid hA2
                    have H92 := mkHid hj3
                    clear hA2 hj3
                    go_wp2_with fail
                    go_roundg (s.size + 1 - (j2))
                    case measure => omega
                    case rel => exact ⟨j2, false, by omega, by omega, fun h => (H92.out h).2, rfl, HA2.out⟩
                · skip
                  as_aux_lemma =>
                    go_wp2_with fail
                    go_quiet (fail)
                    go_wp2_with fail
                    go_quiet (fail)
                    go_wp2_with fail
                    refine (quoted_any s { L with ended := false } b W0 W _ j _ _ HS.out (HX.out _ (by first | exact ⟨_, rfl⟩ | (rw [World.drewN_drewN]; exact ⟨_, rfl⟩))) hjl hz).mono ?_
                    rintro e w2 ⟨rfl, j2, hj1, hj2, hj3, hA2⟩
                    have HA2 := mkHid hA2
                    have H92 := mkHid hj3
                    clear hA2 hj3
                    go_wp2_with fail
                    go_roundg (s.size + 1 - (j2))
                    case measure => omega
                    case rel => exact ⟨j2, false, by omega, by omega, fun h => (H92.out h).2, rfl, HA2.out⟩
              · have HK : Hid (L.kind = 2) := beq_iff_eq.1 hk2
                as_aux_lemma =>
                  go_wp2_with fail
                  go_quiet (fail)
                  go_wp2_with fail
                  go_quiet (fail)
                  go_wp2_with fail
                  refine (quoted_any s { L with ended := false } b W0 W _ j _ false HS.out (HX.out _ (by first | exact ⟨_, rfl⟩ | (rw [World.drewN_drewN]; exact ⟨_, rfl⟩))) hjl hz).mono ?_
                  rintro e w2 ⟨rfl, j2, hj1, hj2, hj3, hA2⟩
                  have hj4 : j2 ≤ s.size := by
                    by_cases e : j2 = s.size + 1
                    · exact absurd (hj3 e).1 (by decide)
                    · omega
                  clear c0 c1 hj3
                  have c0 := hA2.c0 HS.out
                  have c1 := hA2.c1
                  have HA2 := mkHid hA2
                  clear hA2
                  go_wp2_with fail
                  go_quiet (fail)
                  go_wp2_with fail
                  go_ret
                  exact ⟨_, _, rfl, .inr (.inl ⟨j, j2, hij, hj1, hj4, rfl, .inl ⟨HC.out, HK.out⟩, rfl⟩), (HA2.out.drew _).lex.eq (by rw [HEn.out]), (HA2.out.drew _).tk⟩
            · skip
              by_cases h96 : bt s j = 96
              · have hc := h96
                clear h96
                have b59 : (bt s j == 59) = false := by rw [hc]; rfl
                have b39 : (bt s j == 39) = false := by rw [hc]; rfl
                have b34 : (bt s j == 34) = false := by rw [hc]; rfl
                have b96 : (bt s j == 96) = true := by rw [hc]; rfl
                have b64 : (bt s j == 64) = false := by rw [hc]; rfl
                have b45 : (bt s j == 45) = false := by rw [hc]; rfl
                have b35 : (bt s j == 35) = false := by rw [hc]; rfl
                have b47 : (bt s j == 47) = false := by rw [hc]; rfl
                have b36 : (bt s j == 36) = false := by rw [hc]; rfl
                have HC := mkHid hc
                clear hc
                cases hk3 : (L.kind == 3)
                · skip
                  as_aux_lemma =>
                    go_wp2_with fail
                    go_quiet (fail)
                    go_wp2_with fail
                    go_quiet (fail)
                    go_wp2_with fail
                    go_roundg (s.size + 1 - (j + 1))
                    case measure => omega
                    case rel => exact ⟨j + 1, false, by omega, by omega, fun h => by omega, rfl, by first | exact HA1.out.drew _ | exact (HA1.out.drew _).drew _ | exact ((HX.out _ ⟨_, rfl⟩).set _ _ (by omega))⟩
                · have HK : Hid (L.kind = 3) := beq_iff_eq.1 hk3
                  as_aux_lemma =>
                    go_wp2_with fail
                    go_quiet (fail)
                    go_wp2_with fail
                    go_quiet (fail)
                    go_wp2_with fail
                    refine (quoted_any s { L with ended := false } b W0 W _ j _ false HS.out (HX.out _ (by first | exact ⟨_, rfl⟩ | (rw [World.drewN_drewN]; exact ⟨_, rfl⟩))) hjl hz).mono ?_
                    rintro e w2 ⟨rfl, j2, hj1, hj2, hj3, hA2⟩
                    have hj4 : j2 ≤ s.size := by
                      by_cases e : j2 = s.size + 1
                      · exact absurd (hj3 e).1 (by decide)
                      · omega
                    clear c0 c1 hj3
                    have c0 := hA2.c0 HS.out
                    have c1 := hA2.c1
                    have HA2 := mkHid hA2
                    clear hA2
                    go_wp2_with fail
                    go_quiet (fail)
                    go_wp2_with fail
                    go_ret
                    exact ⟨_, _, rfl, .inr (.inl ⟨j, j2, hij, hj1, hj4, rfl, .inr ⟨HC.out, HK.out⟩, rfl⟩), (HA2.out.drew _).lex.eq (by rw [HEn.out]), (HA2.out.drew _).tk⟩
              · skip
                by_cases h64 : bt s j = 64
                · have hc := h64
                  clear h64
                  have b59 : (bt s j == 59) = false := by rw [hc]; rfl
                  have b39 : (bt s j == 39) = false := by rw [hc]; rfl
                  have b34 : (bt s j == 34) = false := by rw [hc]; rfl
                  have b96 : (bt s j == 96) = false := by rw [hc]; rfl
                  have b64 : (bt s j == 64) = true := by rw [hc]; rfl
                  have b45 : (bt s j == 45) = false := by rw [hc]; rfl
                  have b35 : (bt s j == 35) = false := by rw [hc]; rfl
                  have b47 : (bt s j == 47) = false := by rw [hc]; rfl
                  have b36 : (bt s j == 36) = false := by rw [hc]; rfl
                  have HC := mkHid hc
                  clear hc
                  cases hk3 : (L.kind == 3)
                  · have hk3n : ¬ L.kind = 3 := by simpa using hk3
                    as_aux_lemma =>
                      go_wp2_with fail
                      go_quiet (fail)
                      go_wp2_with fail
                      go_quiet (fail)
                      go_wp2_with fail
                      go_roundg (s.size + 1 - (j + 1))
                      case measure => omega
                      case rel => exact ⟨j + 1, false, by omega, by omega, fun h => by omega, rfl, by first | exact HA1.out.drew _ | exact (HA1.out.drew _).drew _ | exact ((HX.out _ ⟨_, rfl⟩).set _ _ (by omega))⟩
                  · have HK : Hid (L.kind = 3) := beq_iff_eq.1 hk3
                    obtain ⟨r, hr, hAt⟩ := at_ax s ⟨#[64]⟩ { L with ended := false } b W0 W _ (j + 1) HS.out HA1.out (by omega) hz
                    have HAt := mkHid hAt
                    clear hAt
                    cases r
                    · clear hr
                      as_aux_lemma =>
                        go_wp2_with fail
                        go_quiet (fail)
                        go_wp2_with fail
                        go_quiet (fail)
                        go_wp2_with fail
                        refine (HAt.out _ (by first | exact Drw.refl _ | exact ⟨_, rfl⟩ | (rw [World.drewN_drewN]; exact ⟨_, rfl⟩))).mono ?_
                        rintro e w2 ⟨rfl, hd⟩
                        have HA2 := mkHid (HA1.out.drw hd)
                        clear hd HAt
                        go_wp2_with fail
                        go_ret
                        exact ⟨_, _, rfl, .inr (.inr (.inl ⟨HK.out, rfl, j + 1, by omega, by omega, by rw [Nat.add_sub_cancel]; exact HC.out, rfl⟩)), HA2.out.lex.eq (by rw [HEn.out]), HA2.out.tk⟩
                    · have hj2 : j + 1 + 1 ≤ s.size := (hr rfl).1
                      clear hr
                      as_aux_lemma =>
                        go_wp2_with fail
                        go_quiet (fail)
                        go_wp2_with fail
                        go_quiet (fail)
                        go_wp2_with fail
                        refine (HAt.out _ (by first | exact Drw.refl _ | exact ⟨_, rfl⟩ | (rw [World.drewN_drewN]; exact ⟨_, rfl⟩))).mono ?_
                        rintro e w2 ⟨rfl, hd⟩
                        have hA2 := HA1.out.drw hd
                        clear c1 f1
                        have c1 := hA2.c1
                        have f1 := hA2.f1
                        have HA2 := mkHid hA2
                        clear hd HAt hA2
                        go_wp2_with fail
                        go_roundg (s.size + 1 - (j + 2))
                        case measure => omega
                        case rel => exact ⟨j + 2, false, by omega, by omega, fun h => by omega, rfl, HA2.out.set _ _ (by omega)⟩
                · skip
                  by_cases h45 : bt s j = 45
                  · have hc := h45
                    clear h45
                    have b59 : (bt s j == 59) = false := by rw [hc]; rfl
                    have b39 : (bt s j == 39) = false := by rw [hc]; rfl
                    have b34 : (bt s j == 34) = false := by rw [hc]; rfl
                    have b96 : (bt s j == 96) = false := by rw [hc]; rfl
                    have b64 : (bt s j == 64) = false := by rw [hc]; rfl
                    have b45 : (bt s j == 45) = true := by rw [hc]; rfl
                    have b35 : (bt s j == 35) = false := by rw [hc]; rfl
                    have b47 : (bt s j == 47) = false := by rw [hc]; rfl
                    have b36 : (bt s j == 36) = false := by rw [hc]; rfl
                    have HC := mkHid hc
                    clear hc
                    as_aux_lemma =>
                      go_wp2_with fail
                      go_quiet (fail)
                      go_wp2_with fail
                      go_quiet (fail)
                      go_wp2_with fail
                      refine (alc_any s { L with ended := false } b W0 W _ j HS.out (HX.out _ (by first | exact ⟨_, rfl⟩ | (rw [World.drewN_drewN]; exact ⟨_, rfl⟩))) hjl hz).mono ?_
                      rintro e w2 ⟨⟨r, rfl⟩, hd⟩
                      have hA2 := (HX.out _ (by first | exact ⟨_, rfl⟩ | (rw [World.drewN_drewN]; exact ⟨_, rfl⟩))).drw hd
                      clear c0 c1 c2 f1 hd
                      have c1 := hA2.c1
                      have f1 := hA2.f1
                      have HA2 := mkHid hA2
                      clear hA2
                      cases r
                      · go_wp2_with fail
                        go_roundg (s.size + 1 - (j + 1))
                        case measure => omega
                        case rel => exact ⟨j + 1, false, by omega, by omega, fun h => by omega, rfl, HA2.out.set _ _ (by omega)⟩
                      · go_wp2_with fail
                        refine (skip_any s { L with ended := false } b W0 W _ j HS.out HA2.out hjl hz).mono ?_
                        rintro e w3 ⟨rfl, j2, hj1, hj2, hA3⟩
                        have HA3 := mkHid hA3
                        clear hA3
                        go_wp2_with fail
                        go_roundg (s.size + 1 - (j2))
                        case measure => omega
                        case rel => exact ⟨j2, false, by omega, by omega, fun h => by omega, rfl, HA3.out⟩
                  · skip
                    by_cases h35 : bt s j = 35
                    · have hc := h35
                      clear h35
                      have b59 : (bt s j == 59) = false := by rw [hc]; rfl
                      have b39 : (bt s j == 39) = false := by rw [hc]; rfl
                      have b34 : (bt s j == 34) = false := by rw [hc]; rfl
                      have b96 : (bt s j == 96) = false := by rw [hc]; rfl
                      have b64 : (bt s j == 64) = false := by rw [hc]; rfl
                      have b45 : (bt s j == 45) = false := by rw [hc]; rfl
                      have b35 : (bt s j == 35) = true := by rw [hc]; rfl
                      have b47 : (bt s j == 47) = false := by rw [hc]; rfl
                      have b36 : (bt s j == 36) = false := by rw [hc]; rfl
                      have HC := mkHid hc
                      clear hc
                      as_aux_lemma =>
                        go_wp2_with fail
                        go_quiet (fail)
                        go_wp2_with fail
                        go_quiet (fail)
                        go_wp2_with fail
                        refine (alc_any s { L with ended := false } b W0 W _ j HS.out (HX.out _ (by first | exact ⟨_, rfl⟩ | (rw [World.drewN_drewN]; exact ⟨_, rfl⟩))) hjl hz).mono ?_
                        rintro e w2 ⟨⟨r, rfl⟩, hd⟩
                        have hA2 := (HX.out _ (by first | exact ⟨_, rfl⟩ | (rw [World.drewN_drewN]; exact ⟨_, rfl⟩))).drw hd
                        clear c0 c1 c2 f1 hd
                        have c1 := hA2.c1
                        have f1 := hA2.f1
                        have HA2 := mkHid hA2
                        clear hA2
                        cases r
                        · go_wp2_with fail
                          go_roundg (s.size + 1 - (j + 1))
                          case measure => omega
                          case rel => exact ⟨j + 1, false, by omega, by omega, fun h => by omega, rfl, HA2.out.set _ _ (by omega)⟩
                        · go_wp2_with fail
                          refine (skip_any s { L with ended := false } b W0 W _ j HS.out HA2.out hjl hz).mono ?_
                          rintro e w3 ⟨rfl, j2, hj1, hj2, hA3⟩
                          have HA3 := mkHid hA3
                          clear hA3
                          go_wp2_with fail
                          go_roundg (s.size + 1 - (j2))
                          case measure => omega
                          case rel => exact ⟨j2, false, by omega, by omega, fun h => by omega, rfl, HA3.out⟩
                    · skip
                      by_cases h47 : bt s j = 47
                      · have hc := h47
                        clear h47
                        have b59 : (bt s j == 59) = false := by rw [hc]; rfl
                        have b39 : (bt s j == 39) = false := by rw [hc]; rfl
                        have b34 : (bt s j == 34) = false := by rw [hc]; rfl
                        have b96 : (bt s j == 96) = false := by rw [hc]; rfl
                        have b64 : (bt s j == 64) = false := by rw [hc]; rfl
                        have b45 : (bt s j == 45) = false := by rw [hc]; rfl
                        have b35 : (bt s j == 35) = false := by rw [hc]; rfl
                        have b47 : (bt s j == 47) = true := by rw [hc]; rfl
                        have b36 : (bt s j == 36) = false := by rw [hc]; rfl
                        have HC := mkHid hc
                        clear hc
                        obtain ⟨r, hr, hAt⟩ := at_ax s ⟨#[47, 42]⟩ { L with ended := false } b W0 W _ j HS.out HA.out (by omega) hz
                        have HAt := mkHid hAt
                        clear hAt
                        cases r
                        · clear hr
                          as_aux_lemma =>
                            go_wp2_with fail
                            go_quiet (fail)
                            go_wp2_with fail
                            go_quiet (fail)
                            go_wp2_with fail
                            refine (HAt.out _ (by first | exact ⟨_, rfl⟩ | (rw [World.drewN_drewN]; exact ⟨_, rfl⟩))).mono ?_
                            rintro e w2 ⟨rfl, hd⟩
                            have hA2 := HA.out.drw hd
                            clear c0 c1 c2 f1 hd
                            have c1 := hA2.c1
                            have f1 := hA2.f1
                            have HA2 := mkHid hA2
                            clear hA2
                            go_wp2_with fail
                            go_roundg (s.size + 1 - (j + 1))
                            case measure => omega
                            case rel => exact ⟨j + 1, false, by omega, by omega, fun h => by omega, rfl, HA2.out.set _ _ (by omega)⟩
                        · have hj2 : j + 2 ≤ s.size := (hr rfl).1
                          clear hr
                          as_aux_lemma =>
                            go_wp2_with fail
                            go_quiet (fail)
                            go_wp2_with fail
                            go_quiet (fail)
                            go_wp2_with fail
                            refine (HAt.out _ (by first | exact ⟨_, rfl⟩ | (rw [World.drewN_drewN]; exact ⟨_, rfl⟩))).mono ?_
                            rintro e w2 ⟨rfl, hd⟩
                            have HA2 := mkHid (HA.out.drw hd)
                            clear c0 c1 c2 f1 hd
                            go_wp2_with fail
                            refine (block_any s { L with ended := false } b W0 W _ j m0 HM.out HS.out HA2.out hj2 hz).mono ?_
                            rintro e w3 ⟨rfl, j2, hj1, hj2, hA3⟩
                            have HA3 := mkHid hA3
                            clear hA3
                            go_wp2_with fail
                            go_roundg (s.size + 1 - (j2))
                            case measure => omega
                            case rel => exact ⟨j2, false, by omega, by omega, fun h => by omega, rfl, HA3.out⟩
                      · skip
                        by_cases h36 : bt s j = 36
                        · have hc := h36
                          clear h36
                          have b59 : (bt s j == 59) = false := by rw [hc]; rfl
                          have b39 : (bt s j == 39) = false := by rw [hc]; rfl
                          have b34 : (bt s j == 34) = false := by rw [hc]; rfl
                          have b96 : (bt s j == 96) = false := by rw [hc]; rfl
                          have b64 : (bt s j == 64) = false := by rw [hc]; rfl
                          have b45 : (bt s j == 45) = false := by rw [hc]; rfl
                          have b35 : (bt s j == 35) = false := by rw [hc]; rfl
                          have b47 : (bt s j == 47) = false := by rw [hc]; rfl
                          have b36 : (bt s j == 36) = true := by rw [hc]; rfl
                          have hwb : wb (bt s j) = false := by rw [hc]; rfl
                          have HWd : Hid (wd (bt s j) = true) := by show wd _ = true; rw [hc]; rfl
                          have HC := mkHid hc
                          clear hc
                          cases hk2 : (L.kind == 2)
                          · have HK : Hid (¬ L.kind = 2) := by show ¬ _; simpa using hk2
                            have HD0 : Hid (bt s j = 36 → ¬ L.kind = 2) := fun _ => HK.out
                            have HW1 : Hid (∀ w, Calls Tryd.prog 31 #[.int .u8 (bt s j)] w fun e w' => e = .returned (.bool false) ∧ w' = w) := fun w => by
                              have := HWs.out (bt s j) w hn0 hn1
                              rw [hwb] at this; exact this
                            clear hwb
                            as_aux_lemma =>
                              go_wp2_with fail
                              go_quiet (fail)
                              go_wp2_with fail
                              go_quiet (fail)
                              go_wp2_with fail
                              refine (HW1.out _).mono ?_
                              rintro e w2 ⟨rfl, hw2⟩
                              subst hw2
                              go_wp2_with fail
                              refine (word_any s { L with i := (j : Int), ended := false } j b W0 W _ (HX.out _ (by first | exact ⟨_, rfl⟩ | (rw [World.drewN_drewN]; exact ⟨_, rfl⟩))).lex (HX.out _ (by first | exact ⟨_, rfl⟩ | (rw [World.drewN_drewN]; exact ⟨_, rfl⟩))).tk HS.out rfl (by omega) hz).mono ?_
                              rintro e w3 ⟨q, hq1, hq2, h1, h2, rfl, hL3, hT3⟩
                              have hq0 : j < q := by
                                by_cases e : j = q
                                · subst e
                                  have := h2 hjl
                                  rw [HWd.out] at this
                                  cases this
                                · omega
                              have H1 := mkHid h1
                              have H2 := mkHid h2
                              clear h1 h2 c0 c1 c2 f1
                              have hA3 : Ax { L with ended := false } b W0 W q w3 := ⟨hL3, hT3⟩
                              clear hL3 hT3
                              have c2' := hA3.c2
                              go_wp2_with fail
                              clear c2'
                              have HTr := mkHid (trk_any { L with i := (q : Int), ended := false } (s.extract j q) b W0 w3 hA3.lex hA3.tk.self (by have := size_le_ext s j q; omega) HPv.out)
                              refine (HTr.out).mono ?_
                              rintro e w5 ⟨rfl, hL5, hT5⟩
                              have HL5 := mkHid hL5
                              have HT5 := mkHid (hA3.tk.trans hT5)
                              clear hL5 hT5 hA3 HTr
                              go_wp2_with fail
                              go_ret
                              exact ⟨_, _, rfl, .inr (.inr (.inr ⟨j, q, hij, hq0, hq2, rfl, H1.out, HD0.out, H2.out, rfl⟩)), HL5.out.eq (by rw [← trackF_i, ← HEn.out]), HT5.out⟩
                          · clear HWd hwb
                            as_aux_lemma =>
                              go_wp2_with fail
                              go_quiet (fail)
                              go_wp2_with fail
                              go_quiet (fail)
                              go_wp2_with fail
                              refine (dollar_any s { L with ended := false } b W0 W _ j m0 HM.out HS.out (HX.out _ (by first | exact ⟨_, rfl⟩ | (rw [World.drewN_drewN]; exact ⟨_, rfl⟩))) hjl hz).mono ?_
                              rintro e w2 ⟨rfl, j2, hj1, hj2, hA2⟩
                              have HA2 := mkHid hA2
                              clear hA2
                              go_wp2_with fail
                              go_roundg (s.size + 1 - (j2))
                              case measure => omega
                              case rel => exact ⟨j2, false, by omega, by omega, fun h => by omega, rfl, HA2.out⟩
                        · skip
                          have b59 : (bt s j == 59) = false := beq_eq_false_iff_ne.2 h59
                          have b39 : (bt s j == 39) = false := beq_eq_false_iff_ne.2 h39
                          have b34 : (bt s j == 34) = false := beq_eq_false_iff_ne.2 h34
                          have b96 : (bt s j == 96) = false := beq_eq_false_iff_ne.2 h96
                          have b64 : (bt s j == 64) = false := beq_eq_false_iff_ne.2 h64
                          have b45 : (bt s j == 45) = false := beq_eq_false_iff_ne.2 h45
                          have b35 : (bt s j == 35) = false := beq_eq_false_iff_ne.2 h35
                          have b47 : (bt s j == 47) = false := beq_eq_false_iff_ne.2 h47
                          have b36 : (bt s j == 36) = false := beq_eq_false_iff_ne.2 h36
                          have HD0 : Hid (bt s j = 36 → ¬ L.kind = 2) := fun e => absurd e h36
                          clear h59 h39 h34 h96 h64 h45 h35 h47 h36
                          cases hwb : wb (bt s j)
                          · skip
                            have HW1 : Hid (∀ w, Calls Tryd.prog 31 #[.int .u8 (bt s j)] w fun e w' => e = .returned (.bool false) ∧ w' = w) := fun w => by
                              have := HWs.out (bt s j) w hn0 hn1
                              rw [hwb] at this; exact this
                            clear hwb
                            as_aux_lemma =>
                              go_wp2_with fail
                              go_quiet (fail)
                              go_wp2_with fail
                              go_quiet (fail)
                              go_wp2_with fail
                              refine (HW1.out _).mono ?_
                              rintro e w2 ⟨rfl, hw2⟩
                              subst hw2
                              go_wp2_with fail
                              go_roundg (s.size + 1 - (j + 1))
                              case measure => omega
                              case rel => exact ⟨j + 1, false, by omega, by omega, fun h => by omega, rfl, by first | exact HA1.out.drew _ | exact (HA1.out.drew _).drew _ | exact ((HX.out _ ⟨_, rfl⟩).set _ _ (by omega))⟩
                          · have HWd : Hid (wd (bt s j) = true) := by show wd _ = true; unfold wd; rw [hwb]; rfl
                            have HW1 : Hid (∀ w, Calls Tryd.prog 31 #[.int .u8 (bt s j)] w fun e w' => e = .returned (.bool true) ∧ w' = w) := fun w => by
                              have := HWs.out (bt s j) w hn0 hn1
                              rw [hwb] at this; exact this
                            clear hwb
                            as_aux_lemma =>
                              go_wp2_with fail
                              go_quiet (fail)
                              go_wp2_with fail
                              go_quiet (fail)
                              go_wp2_with fail
                              refine (HW1.out _).mono ?_
                              rintro e w2 ⟨rfl, hw2⟩
                              subst hw2
                              go_wp2_with fail
                              refine (word_any s { L with i := (j : Int), ended := false } j b W0 W _ (HX.out _ (by first | exact ⟨_, rfl⟩ | (rw [World.drewN_drewN]; exact ⟨_, rfl⟩))).lex (HX.out _ (by first | exact ⟨_, rfl⟩ | (rw [World.drewN_drewN]; exact ⟨_, rfl⟩))).tk HS.out rfl (by omega) hz).mono ?_
                              rintro e w3 ⟨q, hq1, hq2, h1, h2, rfl, hL3, hT3⟩
                              have hq0 : j < q := by
                                by_cases e : j = q
                                · subst e
                                  have := h2 hjl
                                  rw [HWd.out] at this
                                  cases this
                                · omega
                              have H1 := mkHid h1
                              have H2 := mkHid h2
                              clear h1 h2 c0 c1 c2 f1
                              have hA3 : Ax { L with ended := false } b W0 W q w3 := ⟨hL3, hT3⟩
                              clear hL3 hT3
                              have c0' := hA3.c0 HS.out
                              have c2' := hA3.c2
                              obtain ⟨r, hr, hAt⟩ := at_ax s ⟨#[39]⟩ { L with ended := false } b W0 W _ q HS.out hA3 hq2 hz
                              have HAt := mkHid hAt
                              clear hAt
                              cases hk2 : (L.kind == 2)
                              · go_wp2_with fail
                                clear c0' c2' HAt
                                have HTr := mkHid (trk_any { L with i := (q : Int), ended := false } (s.extract j q) b W0 w3 hA3.lex hA3.tk.self (by have := size_le_ext s j q; omega) HPv.out)
                                refine (HTr.out).mono ?_
                                rintro e w5 ⟨rfl, hL5, hT5⟩
                                have HL5 := mkHid hL5
                                have HT5 := mkHid (hA3.tk.trans hT5)
                                clear hL5 hT5 hA3 HTr
                                go_wp2_with fail
                                go_ret
                                exact ⟨_, _, rfl, .inr (.inr (.inr ⟨j, q, hij, hq0, hq2, rfl, H1.out, HD0.out, H2.out, rfl⟩)), HL5.out.eq (by rw [← trackF_i, ← HEn.out]), HT5.out⟩
                              · cases hE : ((s.extract j q).toList == [69])
                                · cases hE2 : ((s.extract j q).toList == [101])
                                  · go_wp2_with fail
                                    clear c0' c2' HAt
                                    have HTr := mkHid (trk_any { L with i := (q : Int), ended := false } (s.extract j q) b W0 w3 hA3.lex hA3.tk.self (by have := size_le_ext s j q; omega) HPv.out)
                                    refine (HTr.out).mono ?_
                                    rintro e w5 ⟨rfl, hL5, hT5⟩
                                    have HL5 := mkHid hL5
                                    have HT5 := mkHid (hA3.tk.trans hT5)
                                    clear hL5 hT5 hA3 HTr
                                    go_wp2_with fail
                                    go_ret
                                    exact ⟨_, _, rfl, .inr (.inr (.inr ⟨j, q, hij, hq0, hq2, rfl, H1.out, HD0.out, H2.out, rfl⟩)), HL5.out.eq (by rw [← trackF_i, ← HEn.out]), HT5.out⟩
                                  · skip
                                    go_wp2_with fail
                                    refine (HAt.out _ (Drw.refl _)).mono ?_
                                    rintro e w4 ⟨rfl, hd⟩
                                    replace hA3 := hA3.drw hd
                                    clear hd HAt c0' c2'
                                    cases r
                                    · clear hr
                                      go_wp2_with fail
                                      have HTr := mkHid (trk_any { L with i := (q : Int), ended := false } (s.extract j q) b W0 w4 hA3.lex hA3.tk.self (by have := size_le_ext s j q; omega) HPv.out)
                                      refine (HTr.out).mono ?_
                                      rintro e w5 ⟨rfl, hL5, hT5⟩
                                      have HL5 := mkHid hL5
                                      have HT5 := mkHid (hA3.tk.trans hT5)
                                      clear hL5 hT5 hA3 HTr
                                      go_wp2_with fail
                                      go_ret
                                      exact ⟨_, _, rfl, .inr (.inr (.inr ⟨j, q, hij, hq0, hq2, rfl, H1.out, HD0.out, H2.out, rfl⟩)), HL5.out.eq (by rw [← trackF_i, ← HEn.out]), HT5.out⟩
                                    · have hq3 : q + 1 ≤ s.size := (hr rfl).1
                                      clear hr
                                      go_wp2_with fail
                                      refine (quoted_any s { L with ended := false } b W0 W _ q 39 true HS.out hA3 (by omega) hz).mono ?_
                                      rintro e w5 ⟨rfl, j2, hj1, hj2, hj3, hA5⟩
                                      have HA5 := mkHid hA5
                                      have H92 := mkHid hj3
                                      clear hA5 hj3 hA3
                                      go_wp2_with fail
                                      go_roundg (s.size + 1 - (j2))
                                      case measure => omega
                                      case rel => exact ⟨j2, false, by omega, by omega, fun h => (H92.out h).2, rfl, HA5.out⟩
                                · skip
                                  go_wp2_with fail
                                  refine (HAt.out _ (Drw.refl _)).mono ?_
                                  rintro e w4 ⟨rfl, hd⟩
                                  replace hA3 := hA3.drw hd
                                  clear hd HAt c0' c2'
                                  cases r
                                  · clear hr
                                    go_wp2_with fail
                                    have HTr := mkHid (trk_any { L with i := (q : Int), ended := false } (s.extract j q) b W0 w4 hA3.lex hA3.tk.self (by have := size_le_ext s j q; omega) HPv.out)
                                    refine (HTr.out).mono ?_
                                    rintro e w5 ⟨rfl, hL5, hT5⟩
                                    have HL5 := mkHid hL5
                                    have HT5 := mkHid (hA3.tk.trans hT5)
                                    clear hL5 hT5 hA3 HTr
                                    go_wp2_with fail
                                    go_ret
                                    exact ⟨_, _, rfl, .inr (.inr (.inr ⟨j, q, hij, hq0, hq2, rfl, H1.out, HD0.out, H2.out, rfl⟩)), HL5.out.eq (by rw [← trackF_i, ← HEn.out]), HT5.out⟩
                                  · have hq3 : q + 1 ≤ s.size := (hr rfl).1
                                    clear hr
                                    go_wp2_with fail
                                    refine (quoted_any s { L with ended := false } b W0 W _ q 39 true HS.out hA3 (by omega) hz).mono ?_
                                    rintro e w5 ⟨rfl, j2, hj1, hj2, hj3, hA5⟩
                                    have HA5 := mkHid hA5
                                    have H92 := mkHid hj3
                                    clear hA5 hj3 hA3
                                    go_wp2_with fail
                                    go_roundg (s.size + 1 - (j2))
                                    case measure => omega
                                    case rel => exact ⟨j2, false, by omega, by omega, fun h => (H92.out h).2, rfl, HA5.out⟩
      · clear HWs
        as_aux_lemma =>
          go_wp2_with fail
          go_quiet (fail)
          go_wp2_with fail
          go_ret
          exact ⟨_, _, rfl, .inl ⟨rfl, j, hij, hjs, HJ.out, rfl⟩, by first | exact (HE9.out.drew _).lex | exact HE9.out.lex, by first | exact (HE9.out.drew _).tk | exact HE9.out.tk⟩
    · clear HWs
      as_aux_lemma =>
        go_wp2_with fail
        go_quiet (fail)
        go_wp2_with fail
        go_ret
        exact ⟨_, _, rfl, .inl ⟨rfl, j, hij, hjs, HJ.out, rfl⟩, by first | exact (HE9.out.drew _).lex | exact HE9.out.lex, by first | exact (HE9.out.drew _).tk | exact HE9.out.tk⟩
end Go.Proofs.Qxb6603871aDoor
