import Derived.Test.Qxb6603871aDoorNp
import Derived.Test.Qxb6603871aDoorAt
import Derived.Maps.AppendAt
set_option linter.unusedVariables false
set_option linter.unusedSimpArgs false
namespace Go.Proofs.Qxb6603871aDoor
open Go.RowKit Go.PlainAid

theorem Tk.self {W0 W w : World} {b : Nat} (h : Tk W0 W b w) : Tk W0 w b w := ⟨h.bel, World.grownBy.refl _ _, h.hb, h.lt, h.ft⟩
theorem Tk.trans {W0 W w w' : World} {b : Nat} (h : Tk W0 W b w) (g : Tk W0 w b w') : Tk W0 W b w' := ⟨g.bel, h.gb.trans g.gb, g.hb, g.lt, g.ft⟩
theorem LexAt.eq {w : World} {b : Nat} {L L' : Lx} (h : LexAt w b L) (e : L = L') : LexAt w b L' := e ▸ h

set_option maxRecDepth 100000 in
set_option maxHeartbeats 1000000 in
theorem next_ended (L : Lx) (b : Nat) (W0 W w : World) (hL : LexAt w b L) (hT : Tk W0 W b w) (he : L.ended = true) :
    Calls Tryd.prog 21 #[.pointer (some ⟨b, 0, none⟩)] w fun e w' => e = .returned (.string ⟨#[]⟩) ∧ LexAt w' b L ∧ Tk W0 W b w' := by
  go_enter Tryd.func21, Tryd.ntmps21
  go_wp2_with fail
  go_loopg [] 0 (fun g wr => g = 0 ∧ LexAt wr b L ∧ Tk W0 W b wr)
  case atStart => exact ⟨rfl, hL, hT⟩
  case round =>
    clear hL hT
    obtain ⟨rfl, hL, hT⟩ := hrel
    have HL' := mkHid (hL.set9 true)
    have HT' := mkHid (hT.set (k := 9) (v := .bool true))
    have HLt' := mkHid HT'.out.lt
    obtain ⟨_, _, _, _, _, _, _, _, _, c9, f⟩ := hL
    rw [he] at c9
    have f9 := f 9
    clear f hT
    have HE := mkHid he
    clear he
    go_wp2_with fail
    go_quiet (fail)
    go_wp2_with fail
    go_ret
    exact ⟨rfl, (HL'.out.drewN HLt'.out _).eq (by rw [← HE.out]), HT'.out.drew _⟩

theorem size_le_ext (s : ByteArray) (a b : Nat) : (s.extract a b).size ≤ s.size := by simp [ByteArray.size_extract]; omega

set_option maxRecDepth 100000 in
set_option maxHeartbeats 4000000 in
theorem next_plain (s : ByteArray) (L : Lx) (i b : Nat) (W0 W w : World) (hL : LexAt w b L) (hT : Tk W0 W b w) (hs : L.sql = s) (hi : L.i = i) (hp : i ≤ s.size) (hz : s.size ≤ 1048576) (hpv : L.prev.size ≤ 1048576)
    (hpl : Plain s i) (he : L.ended = false) (dz : Bool) (hdz : dz = (L.depth == 0 && !L.body)) (P : Nat) (hP : fp s dz (s.size - i) i = P) :
    Calls Tryd.prog 21 #[.pointer (some ⟨b, 0, none⟩)] w fun e w' => e = .returned (.string (nxW s P)) ∧ LexAt w' b (nxL s L P) ∧ Tk W0 W b w' := by
  have HWs : Hid (∀ c w, 0 ≤ c → c ≤ 255 → Calls Tryd.prog 31 #[.int .u8 c] w fun e w' => e = .returned (.bool (wb c)) ∧ w' = w) := fun c w h0 h1 => ws_any c w h0 h1 _ rfl
  have hL0 : LexAt w b { L with i := (i : Int), ended := false } := hL.eq (by rw [← hi, ← he])
  have HPl := mkHid hpl
  have HPv := mkHid hpv
  have HDz := mkHid hdz
  have HEn := mkHid he
  clear hpl hpv hdz hi he hL
  go_enter Tryd.func21, Tryd.ntmps21
  go_wp2_with fail
  go_loopg [] (s.size + 1 - i) (fun g wr => ∃ (j : Nat) (en : Bool), i ≤ j ∧ g = s.size + 1 - j ∧ LexAt wr b { L with i := (j : Int), ended := en } ∧ Tk W0 W b wr ∧ Hid ((en = false ∧ j ≤ s.size ∧ fp s dz (s.size - j) j = P) ∨ (en = true ∧ dz = true ∧ j = P + 1 ∧ P < s.size ∧ (bt s P == 59) = true)))
  case atStart => exact ⟨i, false, Nat.le_refl _, rfl, hL0, hT, .inl ⟨rfl, hp, hP⟩⟩
  case round =>
    clear hL0 hT hP
    obtain ⟨j, en, hij, rfl, hL, hT, HJ⟩ := hrel
    have hbt := get_bt s
    have hLt := hT.lt
    have HL := mkHid hL
    have HT := mkHid hT
    obtain ⟨c0, c1, c2, _, _, _, _, c7, c8, c9, f⟩ := hL
    simp only [hs] at c0 c1 c2 c7 c8 c9
    have f1 := f 1
    have f9 := f 9
    clear f hT
    cases en
    · obtain ⟨_, hj, hP⟩ := HJ.out.resolve_right (fun h => by cases h.1)
      clear HJ
      by_cases hjl : j < s.size
      · have hsp := nosp (HPl.out j hij hjl)
        obtain ⟨s1, s2, s3, s4, s5, s6, s7, s8⟩ := hsp
        have hn0 := bt_nonneg s j
        have hn1 := bt_le s j
        have HL' := mkHid (HL.out.set1 ((j : Int) + 1))
        have HT' := mkHid (HT.out.set (k := 1) (v := .int .i64 ((j : Int) + 1)))
        have HLt' := mkHid HT'.out.lt
        by_cases h59 : bt s j = 59
        · have h59b : (bt s j == 59) = true := by simp [h59]
          have hwb : wb (bt s j) = false := by rw [h59]; rfl
          have H59 := mkHid h59
          clear h59
          cases hdp : (L.depth == 0)
          · have HD0 : Hid (dz = false) := by show dz = false; rw [HDz.out, hdp]; rfl
            have HG := mkHid (fp_go s dz j hjl (by rw [hwb, h59b, HD0.out]; rfl))
            clear HWs HL HT hwb
            have HL2 := mkHid (HL'.out.set9 false)
            have HT2 := mkHid (HT'.out.set (k := 9) (v := .bool false))
            have HLt2 := mkHid HT2.out.lt
            clear HL' HT' HLt'
            as_aux_lemma =>
              go_wp2_with fail
              go_quiet (fail)
              go_wp2_with fail
              go_quiet (fail)
              go_wp2_with fail
              go_roundg (s.size + 1 - (j + 1))
              case measure => omega
              case rel => exact ⟨j + 1, false, by omega, rfl, by first | exact HL2.out.drewN HLt2.out _ | (rw [World.drewN_drewN]; exact HL2.out.drewN HLt2.out _), by first | exact HT2.out.drew _ | (rw [World.drewN_drewN]; exact HT2.out.drew _), .inl ⟨rfl, by omega, by rw [HG.out]; exact hP⟩⟩
          · cases hbd : L.body
            · have HD0 : Hid (dz = true) := by show dz = true; rw [HDz.out, hdp, hbd]; rfl
              have HG := mkHid (fp_stop s dz j hjl (by rw [h59b, HD0.out]; simp))
              have HPj : Hid (j = P) := by show j = P; rw [← hP]; exact HG.out.symm
              rw [hbd] at c8
              have H59b := mkHid h59b
              clear HWs HL HT hwb
              have HL2 := mkHid (HL'.out.set9 true)
              have HT2 := mkHid (HT'.out.set (k := 9) (v := .bool true))
              have HLt2 := mkHid HT2.out.lt
              clear HL' HT' HLt' hbd hP HG
              as_aux_lemma =>
                go_wp2_with fail
                go_quiet (fail)
                go_wp2_with fail
                go_quiet (fail)
                go_wp2_with fail
                go_roundg (s.size + 1 - (j + 1))
                case measure => omega
                case rel => exact ⟨j + 1, true, by omega, rfl, by first | exact HL2.out.drewN HLt2.out _ | (rw [World.drewN_drewN]; exact HL2.out.drewN HLt2.out _), by first | exact HT2.out.drew _ | (rw [World.drewN_drewN]; exact HT2.out.drew _), .inr ⟨rfl, HD0.out, by rw [HPj.out], by rw [← HPj.out]; exact hjl, by rw [← HPj.out]; exact H59b.out⟩⟩
            · have HD0 : Hid (dz = false) := by show dz = false; rw [HDz.out, hdp, hbd]; rfl
              have HG := mkHid (fp_go s dz j hjl (by rw [hwb, h59b, HD0.out]; rfl))
              rw [hbd] at c8
              clear HWs HL HT hwb
              have HL2 := mkHid (HL'.out.set9 false)
              have HT2 := mkHid (HT'.out.set (k := 9) (v := .bool false))
              have HLt2 := mkHid HT2.out.lt
              clear HL' HT' HLt' hbd
              as_aux_lemma =>
                go_wp2_with fail
                go_quiet (fail)
                go_wp2_with fail
                go_quiet (fail)
                go_wp2_with fail
                go_roundg (s.size + 1 - (j + 1))
                case measure => omega
                case rel => exact ⟨j + 1, false, by omega, rfl, by first | exact HL2.out.drewN HLt2.out _ | (rw [World.drewN_drewN]; exact HL2.out.drewN HLt2.out _), by first | exact HT2.out.drew _ | (rw [World.drewN_drewN]; exact HT2.out.drew _), .inl ⟨rfl, by omega, by rw [HG.out]; exact hP⟩⟩
        · have h59b : (bt s j == 59) = false := by simp [h59]
          clear h59
          cases hwb : wb (bt s j)
          · have HG := mkHid (fp_go s dz j hjl (by rw [hwb, h59b]; rfl))
            have HW1 : Hid (∀ w, Calls Tryd.prog 31 #[.int .u8 (bt s j)] w fun e w' => e = .returned (.bool false) ∧ w' = w) := fun w => by
              have := HWs.out (bt s j) w hn0 hn1
              rw [hwb] at this; exact this
            clear HWs HL HT hwb
            as_aux_lemma =>
              go_wp2_with fail
              go_quiet (fail)
              go_wp2_with fail
              go_quiet (fail)
              go_wp2_with fail
              refine (HW1.out _).mono ?_
              rintro e w2 ⟨rfl, rfl⟩
              go_wp2_with fail
              go_roundg (s.size + 1 - (j + 1))
              case measure => omega
              case rel => exact ⟨j + 1, false, by omega, rfl, by first | exact HL'.out.drewN HLt'.out _ | (rw [World.drewN_drewN]; exact HL'.out.drewN HLt'.out _), by first | exact HT'.out.drew _ | (rw [World.drewN_drewN]; exact HT'.out.drew _), .inl ⟨rfl, by omega, by rw [HG.out]; exact hP⟩⟩
          · have HPj : Hid (j = P) := by show j = P; rw [← hP]; exact (fp_stop s dz j hjl (by rw [hwb]; rfl)).symm
            have HW1 : Hid (∀ w, Calls Tryd.prog 31 #[.int .u8 (bt s j)] w fun e w' => e = .returned (.bool true) ∧ w' = w) := fun w => by
              have := HWs.out (bt s j) w hn0 hn1
              rw [hwb] at this; exact this
            have HWord : Hid (∀ w', Drw wr w' → Calls Tryd.prog 32 #[.pointer (some ⟨b, 0, none⟩)] w' fun e w'' => ∃ q, j ≤ q ∧ q ≤ s.size ∧ (∀ k, j ≤ k → k < q → wd (bt s k) = true) ∧ (q < s.size → wd (bt s q) = false) ∧ e = .returned (.string (s.extract j q)) ∧ LexAt w'' b { L with i := (q : Int), ended := false } ∧ Tk W0 W b w'') := by
              intro w' ⟨n, hn⟩
              subst hn
              exact word_any s { L with i := (j : Int), ended := false } j b W0 W _ (HL.out.drewN hLt n) (HT.out.drew n) hs rfl (by omega) hz
            clear HWs hwb HL' HT' HLt' hP HL HT
            as_aux_lemma =>
              go_wp2_with fail
              go_quiet (fail)
              go_wp2_with fail
              go_quiet (fail)
              go_wp2_with fail
              refine (HW1.out _).mono ?_
              rintro e w2 ⟨rfl, rfl⟩
              go_wp2_with fail
              refine (HWord.out _ (by first | exact ⟨_, rfl⟩ | (rw [World.drewN_drewN]; exact ⟨_, rfl⟩))).mono ?_
              rintro e w3 ⟨q, hq1, hq2, h1, h2, rfl, hL3, hT3⟩
              have HQ := mkHid (fq_is s j q hq1 hq2 (fun k a b => (nosp (HPl.out k (by omega) b)).2.2.2.2.2.2.2) h1 h2)
              clear h1 h2 HWord HW1 c0 c1 c2 c7 c8 c9 f1 f9
              have c0' := hL3.c0
              have c1' := hL3.c1
              have c2' := hL3.c2
              simp only [hs] at c0' c1' c2'
              have HAt : Hid (Calls Tryd.prog 26 #[.pointer (some ⟨b, 0, none⟩), .string ⟨#[39]⟩] w3 fun e w' => e = .returned (.bool false) ∧ Drw w3 w') := by
                refine at_any s ⟨#[39]⟩ q b w3 c0' c1' hq2 hz false ?_
                show false = _
                cases hh : Lib.hasPrefix (s.extract q s.size).data.toList (⟨#[39]⟩ : ByteArray).data.toList
                · rfl
                · exfalso
                  obtain ⟨g1, g2⟩ := pre_bt s ⟨#[39]⟩ q hq2 hh
                  have g3 := g2 0 (by decide)
                  have g4 : (⟨#[39]⟩ : ByteArray).size = 1 := rfl
                  have g5 := HPl.out q (by omega) (by omega)
                  rw [Nat.add_zero] at g3
                  rw [g3] at g5
                  exact absurd g5 (by decide)
              cases hk2 : (L.kind == 2)
              · go_wp2_with fail
                clear c0' c1' c2' HAt
                have HTr := mkHid (trk_any { L with i := (q : Int), ended := false } (s.extract j q) b W0 w3 hL3 hT3.self (by have := size_le_ext s j q; omega) HPv.out)
                refine (HTr.out).mono ?_
                rintro e w5 ⟨rfl, hL5, hT5⟩
                have HL5 := mkHid hL5
                have HT5 := mkHid (hT3.trans hT5)
                clear hL5 hT5 hT3 hL3 HTr
                go_wp2_with fail
                go_ret
                refine ⟨?_, HL5.out.eq ?_, HT5.out⟩
                · rw [nxW, if_neg (by have := HPj.out; omega), if_neg (by rw [← HPj.out, h59b]; decide), ← HPj.out, HQ.out]; rfl
                · rw [nxL, if_neg (by have := HPj.out; omega), if_neg (by rw [← HPj.out, h59b]; decide), ← HPj.out, HQ.out, ← trackF_i, ← HEn.out]
              · cases hE : ((s.extract j q).toList == [69])
                · cases hE2 : ((s.extract j q).toList == [101])
                  · go_wp2_with fail
                    clear c0' c1' c2' HAt
                    have HTr := mkHid (trk_any { L with i := (q : Int), ended := false } (s.extract j q) b W0 w3 hL3 hT3.self (by have := size_le_ext s j q; omega) HPv.out)
                    refine (HTr.out).mono ?_
                    rintro e w5 ⟨rfl, hL5, hT5⟩
                    have HL5 := mkHid hL5
                    have HT5 := mkHid (hT3.trans hT5)
                    clear hL5 hT5 hT3 hL3 HTr
                    go_wp2_with fail
                    go_ret
                    refine ⟨?_, HL5.out.eq ?_, HT5.out⟩
                    · rw [nxW, if_neg (by have := HPj.out; omega), if_neg (by rw [← HPj.out, h59b]; decide), ← HPj.out, HQ.out]; rfl
                    · rw [nxL, if_neg (by have := HPj.out; omega), if_neg (by rw [← HPj.out, h59b]; decide), ← HPj.out, HQ.out, ← trackF_i, ← HEn.out]
                  · skip
                    go_wp2_with fail
                    refine (HAt.out).mono ?_
                    rintro e w4 ⟨rfl, hd⟩
                    replace hL3 := hL3.below hT3.lt hd.below
                    replace hT3 := hT3.go hd.below
                    clear hd c0' c1' c2' HAt
                    go_wp2_with fail
                    have HTr := mkHid (trk_any { L with i := (q : Int), ended := false } (s.extract j q) b W0 w4 hL3 hT3.self (by have := size_le_ext s j q; omega) HPv.out)
                    refine (HTr.out).mono ?_
                    rintro e w5 ⟨rfl, hL5, hT5⟩
                    have HL5 := mkHid hL5
                    have HT5 := mkHid (hT3.trans hT5)
                    clear hL5 hT5 hT3 hL3 HTr
                    go_wp2_with fail
                    go_ret
                    refine ⟨?_, HL5.out.eq ?_, HT5.out⟩
                    · rw [nxW, if_neg (by have := HPj.out; omega), if_neg (by rw [← HPj.out, h59b]; decide), ← HPj.out, HQ.out]; rfl
                    · rw [nxL, if_neg (by have := HPj.out; omega), if_neg (by rw [← HPj.out, h59b]; decide), ← HPj.out, HQ.out, ← trackF_i, ← HEn.out]
                · skip
                  go_wp2_with fail
                  refine (HAt.out).mono ?_
                  rintro e w4 ⟨rfl, hd⟩
                  replace hL3 := hL3.below hT3.lt hd.below
                  replace hT3 := hT3.go hd.below
                  clear hd c0' c1' c2' HAt
                  go_wp2_with fail
                  have HTr := mkHid (trk_any { L with i := (q : Int), ended := false } (s.extract j q) b W0 w4 hL3 hT3.self (by have := size_le_ext s j q; omega) HPv.out)
                  refine (HTr.out).mono ?_
                  rintro e w5 ⟨rfl, hL5, hT5⟩
                  have HL5 := mkHid hL5
                  have HT5 := mkHid (hT3.trans hT5)
                  clear hL5 hT5 hT3 hL3 HTr
                  go_wp2_with fail
                  go_ret
                  refine ⟨?_, HL5.out.eq ?_, HT5.out⟩
                  · rw [nxW, if_neg (by have := HPj.out; omega), if_neg (by rw [← HPj.out, h59b]; decide), ← HPj.out, HQ.out]; rfl
                  · rw [nxL, if_neg (by have := HPj.out; omega), if_neg (by rw [← HPj.out, h59b]; decide), ← HPj.out, HQ.out, ← trackF_i, ← HEn.out]
      · obtain rfl : j = s.size := by omega
        have hP2 : s.size = P := by rw [← hP]; exact (fp_end s dz).symm
        clear hP
        have HL' := mkHid (HL.out.set9 true)
        have HT' := mkHid (HT.out.set (k := 9) (v := .bool true))
        have HLt' := mkHid HT'.out.lt
        have HP2 := mkHid hP2
        clear hP2 HL HT HWs
        as_aux_lemma =>
          go_wp2_with fail
          go_quiet (fail)
          go_wp2_with fail
          go_ret
          refine ⟨?_, (HL'.out.drewN HLt'.out _).eq ?_, HT'.out.drew _⟩
          · rw [nxW, if_pos HP2.out.symm]; rfl
          · rw [nxL, if_pos HP2.out.symm]
    · obtain ⟨_, hd, rfl, hPl, h59⟩ := HJ.out.resolve_left (fun h => by cases h.1)
      clear HJ
      have HL' := mkHid (HL.out.set9 true)
      have HT' := mkHid (HT.out.set (k := 9) (v := .bool true))
      have HLt' := mkHid HT'.out.lt
      have H59 := mkHid h59
      clear h59 HL HT HWs
      as_aux_lemma =>
        go_wp2_with fail
        go_quiet (fail)
        go_wp2_with fail
        go_ret
        refine ⟨?_, (HL'.out.drewN HLt'.out _).eq ?_, HT'.out.drew _⟩
        · rw [nxW, if_neg (by omega), if_pos H59.out]; rfl
        · rw [nxL, if_neg (by omega), if_pos H59.out]; simp
end Go.Proofs.Qxb6603871aDoor
