import Derived.Test.Qxb6603871aDoorScw
import Derived.Test.Qxb6603871aDoorScp
import Derived.StillTailTactics
import Derived.WalkLawsBesides
import Derived.Deep.DeepCutAuto
set_option linter.unusedVariables false
set_option linter.unusedSimpArgs false
namespace Go.Proofs.Qxb6603871aDoor
open Go.RowKit Go.PlainAid

/-- The copy's cells after k rounds. -/
def cpN (W : Nat → ByteArray) (len k : Nat) : List Value := (List.range len).map fun j => .string (if j < k then W j else ⟨#[]⟩)
theorem cpN_set (W : Nat → ByteArray) (len k : Nat) (hk : k < len) : (cpN W len k).set k (.string (W k)) = cpN W len (k + 1) := by
  apply List.ext_getElem
  · simp [cpN]
  · intro j h1 h2
    simp only [cpN, List.length_set, List.length_map, List.length_range] at h1
    rw [List.getElem_set]
    by_cases e : k = j
    · subst e; simp [cpN]
    · rw [if_neg e]
      simp only [cpN, List.getElem_map, List.getElem_range]
      by_cases h3 : j < k
      · rw [if_pos h3, if_pos (by omega)]
      · rw [if_neg h3, if_neg (by omega)]

/-- Where law 7 stands from the copy on: the words' row in block b, the state in block c. -/
structure ScAt (w1 w : World) (b c len : Nat) (W : Nat → ByteArray) (L : Lx) : Prop where
  row : ∀ j, j < len → w.cell? ⟨b, j, none⟩ = some (.string (W j))
  lex : LexAt w c L
  bel : Below w1.heap.size w1 w
  hb : w1.heap.size ≤ b
  bc : len = 0 ∨ b < c
  cc : w1.heap.size ≤ c
  lt : c < w.heap.size
theorem ScAt.go {w1 w w' : World} {b c len : Nat} {W : Nat → ByteArray} {L : Lx} (h : ScAt w1 w b c len W L) (hb : Below w.heap.size w w') : ScAt w1 w' b c len W L where
  row j hj := (hb.cell (p := ⟨b, j, none⟩) (Nat.lt_trans (h.bc.resolve_left (by omega)) h.lt)).trans (h.row j hj)
  lex := h.lex.below h.lt hb
  bel := h.bel.trans (hb.mono h.bel.size)
  hb := h.hb
  bc := h.bc
  cc := h.cc
  lt := Nat.lt_of_lt_of_le h.lt hb.size
theorem ScAt.set {w1 w : World} {b c len : Nat} {W : Nat → ByteArray} {L L' : Lx} (h : ScAt w1 w b c len W L) (k : Nat) (v : Value) (hL : LexAt (w.setCell ⟨c, k, none⟩ v) c L') : ScAt w1 (w.setCell ⟨c, k, none⟩ v) b c len W L' where
  row j hj := by
    have hne : b ≠ c := Nat.ne_of_lt (h.bc.resolve_left (by omega))
    rw [World.cell?_setCell_other _ _ _ _ (by intro e; injection e with e1 e2; exact hne e1.symm)]
    exact h.row j hj
  lex := hL
  bel := h.bel.setCell h.cc _
  hb := h.hb
  bc := h.bc
  cc := h.cc
  lt := by have := h.lt; simp [World.setCell]; exact this

theorem mixed : Tryd.prog.follows .mixedOrders = true := by kernel_rfl
theorem Tryd.info9 : (Tryd.prog.info? 9).map (fun i => (i.zero, i.size, i.bytes)) = some (some (.string ⟨#[]⟩), 1, 16) := by kernel_rfl

set_option maxRecDepth 100000 in
set_option maxHeartbeats 4000000 in
theorem sc_any (kind : Int) (b off len cap : Nat) (ss : List ByteArray) (w : World) (hlen : len ≤ ss.length) (hr : len ≤ 8796093022000) (hF : FoldTab w)
    (hc : ∀ j, j < ss.length → w.cell? ⟨b, off + j, none⟩ = some (.string (ss.getD j ByteArray.empty))) (hz : ∀ j, (ss.getD j ByteArray.empty).size ≤ 140737488351232) (hb : b < w.heap.size) :
    Calls Tryd.prog 7 #[.int .i32 kind, .slice (some ⟨b, off, none⟩) len cap] w fun e w' => e = .returned (.bool true) ∧ Below w.heap.size w w' := by
  have HF := mkHid hF
  have HC := mkHid hc
  have HZ := mkHid hz
  have HY := mkHid (bytes_any kind b off len cap ss w hlen hr hc hz)
  clear hF hc hz
  obtain ⟨W, hW⟩ : ∃ W : Nat → ByteArray, W = fun j => ss.getD j ByteArray.empty := ⟨_, rfl⟩
  have HW := mkHid hW
  clear hW
  go_enter Tryd.func7, Tryd.ntmps7
  go_wp2_with fail
  refine (HY.out).mono ?_
  rintro e w1 ⟨⟨r, rfl⟩, rfl⟩
  cases r
  · go_wp2
    go_ret
    exact ⟨rfl, Below.refl _ _⟩
  by_cases hl : len ≤ 65536
  · by_cases hl2 : 16 * len ≤ 1048576
    · go_wp2
      go_loopg [5, 6] len (fun g v5 v6 wr => ∃ k z : Nat, k ≤ len ∧ z ≤ 1048576 ∧ g = len - k ∧ v5 = .int .i64 z ∧ v6 = .int .i64 k ∧ Hid (∀ j, j < k → (W j).size ≤ 1048576) ∧ w1 = wr)
      case atStart => exact ⟨0, 16 * len, Nat.zero_le _, hl2, rfl, by go_num, rfl, fun j h => absurd h (Nat.not_lt_zero _), rfl⟩
      case round =>
        obtain ⟨k, z, hk, hzz, rfl, rfl, rfl, HJ, rfl⟩ := hrel
        by_cases hkl : k < len
        · have hck := HC.out k (by omega)
          have hzk := HZ.out k
          have hWk : W k = ss.getD k ByteArray.empty := by rw [HW.out]
          rw [← hWk] at hck hzk
          clear hWk
          by_cases h2 : (W k).size ≤ 1048576
          · by_cases h3 : z + (W k).size ≤ 1048576
            · go_wp2
              go_roundg (len - (k + 1))
              case measure => omega
              case rel => exact ⟨k + 1, z + (W k).size, by omega, by omega, rfl, by go_num, by go_num, fun j hj => (by
                by_cases e : j = k
                · rw [e]; exact h2
                · exact HJ.out j (by omega)), rfl⟩
            · go_wp2
              all_goals (go_ret; exact ⟨rfl, Below.refl _ _⟩)
          · go_wp2
            all_goals (go_ret; exact ⟨rfl, Below.refl _ _⟩)
        · obtain rfl : len = k := by omega
          clear hkl
          obtain ⟨i0, hi, hz0, hz1, hz2⟩ := info_parts Tryd.info9
          go_wp2_with (first
            | (at_make; refine wpList_make_full _ rfl _ _ 32 rfl w1.heap.size 9 i0 (.string ⟨#[]⟩) 1 Tryd.underlying32 hi hz0 hz1 .i64 .i64 _ _ len rfl rfl rfl rfl (by rw [hz2]; omega) (by unfold maxLen; omega) (Nat.le_refl _) ?_; intro w2 hown1 hgrow1)
            | fail)
          have hbel1 : Below w1.heap.size w1 w2 := (Below.refl _ _).grown hgrow1 (Nat.le_refl _) (fun k h => by cases h)
          have hown2 : w2.ownsRow w1.heap.size 9 1 (.slice (some ⟨w1.heap.size, 0, none⟩) len len) len (cpN W len 0) := by
            have : (madeCells (Value.string ⟨#[]⟩).cells (len * 1)).toList = cpN W len 0 := by
              rw [show (Value.string ⟨#[]⟩).cells = #[Value.string ⟨#[]⟩] from rfl, toList_madeCells_one, Nat.mul_one]
              simp [cpN, List.map_const']
            rw [this] at hown1; exact hown1
          clear hown1 hgrow1
          go_loopg [8] len (fun g v wq => ∃ k : Nat, k ≤ len ∧ g = len - k ∧ v = .int .i64 k ∧ wq.ownsRow w1.heap.size 9 1 (.slice (some ⟨w1.heap.size, 0, none⟩) len len) len (cpN W len k) ∧ Below w1.heap.size w1 wq)
          case atStart => exact ⟨0, Nat.zero_le _, rfl, rfl, hown2, hbel1⟩
          case round =>
            clear hown2 hbel1
            obtain ⟨k, hk, rfl, rfl, hown, hbel⟩ := hrel
            by_cases hkl : k < len
            · have hck := (hbel.cell (p := ⟨b, off + k, none⟩) hb).trans (HC.out k (by omega))
              have hWk : W k = ss.getD k ByteArray.empty := by rw [HW.out]
              rw [← hWk] at hck
              clear hWk
              have hc2 : ∃ u, wr.cell? ⟨w1.heap.size, k, none⟩ = some u := ⟨_, (hown.cellAt k (by omega)).trans (List.getElem?_eq_getElem (by simp [cpN]; exact hkl))⟩
              obtain ⟨u, hc2⟩ := hc2
              have hf := hown.frozenAt k
              have HS : Hid ((wr.setCell ⟨w1.heap.size, k, none⟩ (.string (W k))).ownsRow w1.heap.size 9 1 (.slice (some ⟨w1.heap.size, 0, none⟩) len len) len (cpN W len (k + 1))) := by
                have := (hown.stored k (.string (W k))).1
                rw [← cpN_set W len k hkl]
                exact this
              clear hown
              go_wp2
              go_roundg (len - (k + 1))
              case measure => omega
              case rel => exact ⟨k + 1, by omega, rfl, by go_num, HS.out, hbel.setCell (Nat.le_refl _) _⟩
            · obtain rfl : len = k := by omega
              clear hkl
              have hnil := Lib.run_eql_slice_nil (P := Tryd.prog) wr 32 9 (some ⟨b, off, none⟩) len cap 0 0 Tryd.underlying32
              have hS : ScAt w1 (wr.alloc (.cells #[.string ⟨#[]⟩, .int .i64 0, .int .i32 kind, .int .i64 0, .string ⟨#[]⟩, .bool false, .bool false, .int .i64 0, .bool false, .bool false] 25)) w1.heap.size wr.heap.size len W (Lk kind W 0) := by
                have hrow : ∀ j, j < len → wr.cell? ⟨w1.heap.size, j, none⟩ = some (.string (W j)) := fun j hj => (hown.cellAt j (by omega)).trans (by simp [cpN, hj])
                have hlt : len = 0 ∨ w1.heap.size < wr.heap.size := by
                  by_cases e : len = 0
                  · exact .inl e
                  · exact .inr (World.block_lt_of_cell? wr _ (hrow 0 (by omega)))
                exact ⟨fun j hj => (by
                  rw [World.cell?_alloc_past _ _ _ (hlt.resolve_left (by omega))]
                  exact hrow j hj), alloc_lex wr (L0 kind) 25, hbel.alloc hbel.size _, Nat.le_refl _, hlt, hbel.size, by simp⟩
              go_wp2_with fail
              clear hown hbel hnil
              generalize (World.alloc wr _) = w3 at hS ⊢
              generalize wr.heap.size = c at hS ⊢
              generalize w1.heap.size = b2 at hS ⊢
              have HSz := HJ
              clear HJ
              go_loopg [10] len (fun g v wr => ∃ k : Nat, k ≤ len ∧ g = len - k ∧ v = .int .i64 k ∧ ScAt w1 wr b2 c len W (Lk kind W k))
              case atStart => exact ⟨0, Nat.zero_le _, rfl, rfl, hS⟩
              case round =>
                clear hS
                obtain ⟨k, hk, rfl, rfl, hS⟩ := hrel
                by_cases hkl : k < len
                · have hck := hS.row k hkl
                  have hLk := hS.lex
                  have hO := Lk_ok kind W k (by omega)
                  generalize hLL : Lk kind W k = L at hLk hO hS
                  obtain ⟨c0, c1, c2, c3, c4, c5, c6, c7, c8, c9, f⟩ := hLk
                  go_wp2_with fail
                  go_still_tail 24, mixed
                  clear c0 c1 c2 c3 c4 c5 c6 c7 c8 c9 f
                  have hS1 : ScAt w1 wr.drew b2 c len W L := hS.go (Below.refl _ _).drew
                  have hpv : L.prev.size ≤ 1048576 := by
                    rw [hO.prev]
                    split
                    · decide
                    · exact HSz.out _ (by omega)
                  have HC1 := mkHid (zztrack_any L (W k) wr.drew (HF.out.below hS1.bel) (HSz.out k hkl) hpv _ rfl)
                  clear hS
                  go_wp2_with fail
                  refine (HC1.out).mono ?_
                  rintro e w4 ⟨rfl, hb4⟩
                  have hS4 := hS1.go hb4
                  clear hS1 hb4 HC1
                  have hL4 : trackF L (W k) = Lk kind W (k + 1) := by rw [← hLL]; rfl
                  rw [hL4]
                  clear hL4 hLL
                  generalize hL5 : Lk kind W (k + 1) = L4
                  have HL5 := mkHid hL5
                  clear hL5
                  have g0 := hS4.set 0 (.string L4.sql) (hS4.lex.set0 L4.sql)
                  have g1 := g0.set 1 (.int .i64 L4.i) (g0.lex.set1 L4.i)
                  have g2 := g1.set 2 (.int .i32 L4.kind) (g1.lex.set2 L4.kind)
                  have g3 := g2.set 3 (.int .i64 L4.n) (g2.lex.set3 L4.n)
                  have g4 := g3.set 4 (.string L4.prev) (g3.lex.set4 L4.prev)
                  have g5 := g4.set 5 (.bool L4.cr) (g4.lex.set5 L4.cr)
                  have g6 := g5.set 6 (.bool L4.be) (g5.lex.set6 L4.be)
                  have g7 := g6.set 7 (.int .i64 L4.depth) (g6.lex.set7 L4.depth)
                  have g8 := g7.set 8 (.bool L4.body) (g7.lex.set8 L4.body)
                  have g9 := g8.set 9 (.bool L4.ended) (g8.lex.set9 L4.ended)
                  have H4 := mkHid g9
                  clear g0 g1 g2 g3 g4 g5 g6 g7 g8 g9
                  obtain ⟨c0, c1, c2, c3, c4, c5, c6, c7, c8, c9, f⟩ := hS4.lex
                  clear hS4
                  go_wp2_with fail
                  go_roundg (len - (k + 1))
                  case measure => omega
                  case rel => exact ⟨k + 1, by omega, rfl, by go_num, by rw [HL5.out]; exact H4.out⟩
                · obtain rfl : len = k := by omega
                  clear hkl
                  have hO := Lk_ok kind W len hl
                  generalize Lk kind W len = L at hS hO
                  have HO := mkHid hO
                  clear hO
                  have HK : Hid (∀ j t w, j < len → kwOk t → Calls Tryd.prog 17 #[.string (W j), .string t] w fun e w' => e = .returned (.bool (kw (W j) t)) ∧ Drw w w') := fun j t w hj ht => kwd_any _ t w (HSz.out j hj) ht _ rfl
                  have HB : Hid (∀ j w, j < len → Calls Tryd.prog 19 #[.string (W j)] w fun e w' => e = .returned (.bool (bodyW (W j))) ∧ Drw w w') := fun j w hj => bodyw_any _ w (HSz.out j hj) _ rfl
                  clear HSz HF
                  go_upto_region 29 with fail
                  go_cut [11] (fun v wx => v = .bool L.cr ∧ ScAt w1 wx b2 c len W L)
                  case first =>
                    as_aux_lemma =>
                      by_cases h0 : 0 < len
                      · have hck := hS.row 0 h0
                        go_wp2_with fail
                        refine (HK.out 0 _ _ h0 ok_CREATE).mono ?_
                        rintro e w2 ⟨rfl, hd⟩
                        have hE : kw (W 0) kCREATE = L.cr := by rw [HO.out.cr]; simp [h0]
                        rw [hE]
                        clear hE
                        have H2 := mkHid (hS.go hd.below)
                        clear hS hd hck
                        go_wp2_with fail
                        go_meet
                        case rel => exact ⟨rfl, H2.out⟩
                      · have HE : Hid (L.cr = false) := by show L.cr = false; rw [HO.out.cr]; simp [h0]
                        go_wp2_with fail
                        go_meet
                        case rel => exact ⟨by rw [HE.out], hS⟩
                  case rest =>
                    clear hS
                    obtain ⟨rfl, hS⟩ := hcut
                    go_upto_region 30 with fail
                    go_cut [12] (fun v wx => v = .bool L.be ∧ ScAt w1 wx b2 c len W L)
                    case first =>
                      as_aux_lemma =>
                        by_cases h0 : 0 < len
                        · have hck := hS.row 0 h0
                          go_wp2_with fail
                          refine (HK.out 0 _ _ h0 ok_BEGIN).mono ?_
                          rintro e w2 ⟨rfl, hd⟩
                          have hE : kw (W 0) kBEGIN = L.be := by rw [HO.out.be]; simp [h0]
                          rw [hE]
                          clear hE
                          have H2 := mkHid (hS.go hd.below)
                          clear hS hd hck
                          go_wp2_with fail
                          go_meet
                          case rel => exact ⟨rfl, H2.out⟩
                        · have HE : Hid (L.be = false) := by show L.be = false; rw [HO.out.be]; simp [h0]
                          go_wp2_with fail
                          go_meet
                          case rel => exact ⟨by rw [HE.out], hS⟩
                    case rest =>
                      clear hS
                      obtain ⟨rfl, hS⟩ := hcut
                      go_upto_if 123 with fail
                      go_cut [0, 11, 12, 13, 14] (fun v0 v11 v12 v v14 wx => v0 = .int .i32 kind ∧ v11 = .bool L.cr ∧ v12 = .bool L.be ∧ v = .bool L.body ∧ ScAt w1 wx b2 c len W L)
                      case first =>
                        as_aux_lemma =>
                          by_cases h3 : kind = 3
                          · have h3b : (kind == 3) = true := by simp [h3]
                            have H3 := mkHid h3
                            clear h3
                            cases hcr : L.cr
                            · have HBo : Hid (L.body = (L.be && decide (2 ≤ len) && kw (W 1) kNOT)) := by show L.body = _; rw [HO.out.body, hcr]; simp [H3.out]
                              have HCr := mkHid hcr
                              clear hcr
                              cases hbe : L.be
                              · replace HBo : Hid (L.body = false) := by show L.body = false; rw [HBo.out, hbe]; rfl
                                have HBe := mkHid hbe
                                clear hbe
                                go_wp2_with fail
                                go_meet
                                case rel => exact ⟨rfl, by rw [HCr.out], by rw [HBe.out], by rw [HBo.out], hS⟩
                              · by_cases hl2' : 2 ≤ len
                                · replace HBo : Hid (kw (W 1) kNOT = L.body) := by show _ = L.body; rw [HBo.out, hbe]; simp [hl2']
                                  have HBe := mkHid hbe
                                  clear hbe
                                  have hck := hS.row 1 (by omega)
                                  go_wp2_with fail
                                  refine (HK.out 1 _ _ (by omega) ok_NOT).mono ?_
                                  rintro e w2 ⟨rfl, hd⟩
                                  rw [HBo.out]
                                  have H2 := mkHid (hS.go hd.below)
                                  clear hS hd hck
                                  go_wp2_with fail
                                  go_meet
                                  case rel => exact ⟨rfl, by rw [HCr.out], by rw [HBe.out], rfl, H2.out⟩
                                · replace HBo : Hid (L.body = false) := by show L.body = false; rw [HBo.out, hbe]; simp [hl2']
                                  have HBe := mkHid hbe
                                  clear hbe
                                  go_wp2_with fail
                                  go_meet
                                  case rel => exact ⟨rfl, by rw [HCr.out], by rw [HBe.out], by rw [HBo.out], hS⟩
                            · have HBo : Hid (L.body = bodyN W len) := by show L.body = _; rw [HO.out.body, hcr]; simp [H3.out]
                              have h0k : decide (0 < len) = true ∧ kw (W 0) kCREATE = true := by
                                have := HO.out.cr; rw [hcr] at this; simp only [Bool.true_eq, Bool.and_eq_true] at this; exact this
                              have h0 : 0 < len := of_decide_eq_true h0k.1
                              have hbe : L.be = false := by rw [HO.out.be, create_begin _ h0k.2]; simp
                              have HCr := mkHid hcr
                              have HBe := mkHid hbe
                              clear hcr h0k
                              rw [hbe]
                              clear hbe
                              go_wp2_with fail
                              rw [h3b]
                              clear h3b
                              go_loopg [13, 14] (len - 1) (fun g v13 v14 wr => ∃ k : Nat, 1 ≤ k ∧ k ≤ len ∧ k ≤ 8 ∧ g = len - k ∧ v13 = .bool (bodyN W k) ∧ v14 = .int .i64 k ∧ ScAt w1 wr b2 c len W L)
                              case atStart => exact ⟨1, Nat.le_refl _, h0, by omega, rfl, rfl, rfl, hS⟩
                              case round =>
                                clear hS
                                obtain ⟨k, hk1, hk2, hk8, rfl, rfl, rfl, hS⟩ := hrel
                                have bo : bodyN W (k + 1) = (bodyN W k || (decide (1 ≤ k) && decide (k ≤ 7) && bodyW (W k))) := rfl
                                rw [decide_eq_true hk1] at bo
                                by_cases hkl : k < len
                                · by_cases hk7 : k ≤ 7
                                  · rw [decide_eq_true hk7] at bo
                                    have hck := hS.row k hkl
                                    go_wp2_with fail
                                    refine (HB.out k _ hkl).mono ?_
                                    rintro e w2 ⟨rfl, hd⟩
                                    have H2 := mkHid (hS.go hd.below)
                                    clear hS hd hck
                                    cases hbw : bodyW (W k)
                                    · have BO : Hid (bodyN W k = bodyN W (k + 1)) := by show _ = _; rw [bo, hbw]; simp
                                      clear bo hbw
                                      rw [BO.out]
                                      go_wp2_with fail
                                      go_roundg (len - (k + 1))
                                      case measure => omega
                                      case rel => exact ⟨k + 1, by omega, by omega, by omega, rfl, rfl, by go_num, H2.out⟩
                                    · have BO : Hid (bodyN W (k + 1) = true) := by show _ = _; rw [bo, hbw]; simp
                                      clear bo hbw
                                      go_wp2_with fail
                                      go_roundg (len - (k + 1))
                                      case measure => omega
                                      case rel => exact ⟨k + 1, by omega, by omega, by omega, rfl, by rw [BO.out], by go_num, H2.out⟩
                                  · clear bo
                                    have BO : Hid (bodyN W k = L.body) := by show _ = _; rw [HBo.out, bodyN_8 W len (by omega), show k = 8 by omega]
                                    rw [BO.out]
                                    go_wp2_with fail
                                    go_meet
                                    case rel => exact ⟨rfl, by rw [HCr.out], by rw [HBe.out], rfl, hS⟩
                                · clear bo
                                  have BO : Hid (bodyN W k = L.body) := by show _ = _; rw [HBo.out, show k = len by omega]
                                  rw [BO.out]
                                  go_wp2_with fail
                                  go_meet
                                  case rel => exact ⟨rfl, by rw [HCr.out], by rw [HBe.out], rfl, hS⟩
                          · have h3b : (kind == 3) = false := by simp [h3]
                            have HBo : Hid (L.body = false) := by show L.body = false; rw [HO.out.body]; simp [h3]
                            go_wp2_with fail
                            go_meet
                            case rel => exact ⟨rfl, rfl, rfl, by rw [HBo.out], hS⟩
                      case rest =>
                        clear hS
                        obtain ⟨rfl, rfl, rfl, rfl, hS⟩ := hcut
                        go_upto_if 152 with fail
                        go_cut [15] (fun v wx => v = .string L.prev ∧ ScAt w1 wx b2 c len W L)
                        case first =>
                          as_aux_lemma =>
                            by_cases h0 : 0 < len
                            · have HP : Hid (W (len - 1) = L.prev) := by show _ = L.prev; rw [HO.out.prev, if_neg (by omega)]
                              have hck := hS.row (len - 1) (by omega)
                              rw [HP.out] at hck
                              go_wp2_with fail
                              go_meet
                              case rel => exact ⟨rfl, hS⟩
                            · have HP : Hid (L.prev = ⟨#[]⟩) := by show L.prev = _; rw [HO.out.prev, if_pos (by omega)]
                              go_wp2_with fail
                              go_meet
                              case rel => exact ⟨by rw [HP.out], hS⟩
                        case rest =>
                          clear hS
                          obtain ⟨rfl, hS⟩ := hcut
                          obtain ⟨c0, c1, c2, c3, c4, c5, c6, c7, c8, c9, f⟩ := hS.lex
                          have e1 : (L.prev.toList == L.prev.toList) = true := by simp
                          have e2 : (kind == kind) = true := by simp
                          have e3 : ((len : Int) == (len : Int)) = true := by simp
                          have e4 : (L.cr == L.cr) = true := by simp
                          have e5 : (L.be == L.be) = true := by simp
                          have e6 : (L.body == L.body) = true := by simp
                          rw [HO.out.sql] at c0
                          rw [HO.out.i] at c1
                          rw [HO.out.kd] at c2
                          rw [HO.out.n] at c3
                          rw [HO.out.ended] at c9
                          clear f HB
                          by_cases h2 : kind = 2
                          · have h2b : (kind == 2) = true := by simp [h2]
                            have H2 := mkHid h2
                            clear h2
                            cases hcr : L.cr
                            · have hdz : L.depth = 0 := HO.out.dep0.resolve_left (fun h => by rw [hcr] at h; cases h.2)
                              rw [hdz] at c7
                              rw [hcr] at c5 e4
                              clear hdz hcr
                              have HBel := mkHid hS.bel
                              clear hS HO HK
                              as_aux_lemma =>
                                go_wp2
                                go_ret
                                exact ⟨rfl, HBel.out⟩
                            · rw [hcr] at c5 e4
                              have h0 : 0 < len := by
                                have := HO.out.cr; rw [hcr] at this; simp only [Bool.true_eq, Bool.and_eq_true] at this; exact of_decide_eq_true this.1
                              clear hcr
                              go_wp2_with fail
                              try rw [h2b]
                              clear h2b e1 e2 e3 e4 e5 e6 c0 c1 c2 c3 c4 c5 c6 c7 c8 c9
                              go_loopg [16, 17, 18] (len - 1) (fun g v16 v17 v18 wr => ∃ k : Nat, 1 ≤ k ∧ k ≤ len ∧ g = len - k ∧ v16 = .bool (odN W k) ∧ v17 = .int .i64 (opN W k) ∧ v18 = .int .i64 k ∧ ScAt w1 wr b2 c len W L)
                              case atStart => exact ⟨1, Nat.le_refl _, h0, rfl, rfl, rfl, rfl, hS⟩
                              case round =>
                                clear hS
                                obtain ⟨k, hk1, hk2, rfl, rfl, rfl, rfl, hS⟩ := hrel
                                have hop := opN_le W k
                                by_cases hkl : k < len
                                · have od : odN W (k + 1) = (odN W k || (decide (1 ≤ k) && kw (W k) kATOMIC && kw (W (k - 1)) kBEGIN)) := rfl
                                  have op : opN W (k + 1) = opN W k + (if 1 ≤ k ∧ (kw (W k) kATOMIC || kw (W k) kCASE) = true then 1 else 0) := rfl
                                  rw [decide_eq_true hk1, Bool.true_and] at od
                                  have hck := hS.row k hkl
                                  have hcm := hS.row (k - 1) (by omega)
                                  go_wp2_with fail
                                  refine (HK.out k _ _ hkl ok_ATOMIC).mono ?_
                                  rintro e w2 ⟨rfl, hd⟩
                                  replace hS := hS.go hd.below
                                  clear hd hck hcm
                                  have hck := hS.row k hkl
                                  have hcm := hS.row (k - 1) (by omega)
                                  cases hA : kw (W k) kATOMIC
                                  · have OD : Hid (odN W k = odN W (k + 1)) := by show _ = _; rw [od, hA]; simp
                                    go_wp2_with fail
                                    refine (HK.out k _ _ hkl ok_ATOMIC).mono ?_
                                    rintro e w3 ⟨rfl, hd⟩
                                    replace hS := hS.go hd.below
                                    clear hd hck hcm
                                    have hck := hS.row k hkl
                                    rw [hA]
                                    go_wp2_with fail
                                    refine (HK.out k _ _ hkl ok_CASE).mono ?_
                                    rintro e w4 ⟨rfl, hd⟩
                                    have H4 := mkHid (hS.go hd.below)
                                    clear hd hck hS
                                    cases hC : kw (W k) kCASE
                                    · have OP : Hid (opN W (k + 1) = opN W k) := by show _ = _; rw [op, hA, hC, if_neg (by simp)]; rfl
                                      clear hA hC od op
                                      go_wp2_with fail
                                      go_roundg (len - (k + 1))
                                      case measure => omega
                                      case rel => exact ⟨k + 1, by omega, by omega, rfl, by rw [OD.out], by rw [OP.out], by go_num, H4.out⟩
                                    · have OP : Hid (opN W (k + 1) = opN W k + 1) := by show _ = _; rw [op, hA, hC, if_pos (by simp [hk1])]
                                      clear hA hC od op
                                      go_wp2_with fail
                                      go_roundg (len - (k + 1))
                                      case measure => omega
                                      case rel => exact ⟨k + 1, by omega, by omega, rfl, by rw [OD.out], by rw [OP.out]; go_num, by go_num, H4.out⟩
                                  · have OP : Hid (opN W (k + 1) = opN W k + 1) := by show _ = _; rw [op, hA, if_pos (by simp [hk1])]
                                    go_wp2_with fail
                                    refine (HK.out (k - 1) _ _ (by omega) ok_BEGIN).mono ?_
                                    rintro e w3 ⟨rfl, hd⟩
                                    replace hS := hS.go hd.below
                                    clear hd hck hcm
                                    have hck := hS.row k hkl
                                    cases hB : kw (W (k - 1)) kBEGIN
                                    · have OD : Hid (odN W k = odN W (k + 1)) := by show _ = _; rw [od, hA, hB]; simp
                                      go_wp2_with fail
                                      refine (HK.out k _ _ hkl ok_ATOMIC).mono ?_
                                      rintro e w4 ⟨rfl, hd⟩
                                      have H4 := mkHid (hS.go hd.below)
                                      clear hd hck hS
                                      rw [hA]
                                      clear hA hB od op
                                      go_wp2_with fail
                                      go_roundg (len - (k + 1))
                                      case measure => omega
                                      case rel => exact ⟨k + 1, by omega, by omega, rfl, by rw [OD.out], by rw [OP.out]; go_num, by go_num, H4.out⟩
                                    · have OD : Hid (odN W (k + 1) = true) := by show _ = _; rw [od, hA, hB]; simp
                                      go_wp2_with fail
                                      refine (HK.out k _ _ hkl ok_ATOMIC).mono ?_
                                      rintro e w4 ⟨rfl, hd⟩
                                      have H4 := mkHid (hS.go hd.below)
                                      clear hd hck hS
                                      rw [hA]
                                      clear hA hB od op
                                      go_wp2_with fail
                                      go_roundg (len - (k + 1))
                                      case measure => omega
                                      case rel => exact ⟨k + 1, by omega, by omega, rfl, by rw [OD.out], by rw [OP.out]; go_num, by go_num, H4.out⟩
                                · obtain rfl : len = k := by omega
                                  clear hkl
                                  have c7 := hS.lex.c7
                                  have HBel := mkHid hS.bel
                                  have hd1 := HO.out.dep1
                                  have hd2 := HO.out.dep2
                                  clear hS
                                  cases ho : odN W len
                                  · rw [hd2 ho] at c7
                                    clear hd1 hd2 ho HO HK
                                    go_wp2
                                    go_ret
                                    exact ⟨rfl, HBel.out⟩
                                  · clear hd2 ho HO HK
                                    obtain ⟨hd1, hd3⟩ := hd1
                                    generalize L.depth = dp at c7 hd1 hd3
                                    generalize opN W len = q at hop hd3 ⊢
                                    go_wp2
                                    go_ret
                                    exact ⟨rfl, HBel.out⟩
                          · have h2b : (kind == 2) = false := by simp [h2]
                            have hdz : L.depth = 0 := HO.out.dep0.resolve_left (fun h => h2 h.1)
                            rw [hdz] at c7
                            clear hdz
                            have HBel := mkHid hS.bel
                            clear hS HO HK
                            as_aux_lemma =>
                              go_wp2
                              all_goals (go_ret; exact ⟨rfl, HBel.out⟩)
    · go_wp2
      all_goals (go_ret; exact ⟨rfl, Below.refl _ _⟩)
  · go_wp2
    all_goals (go_ret; exact ⟨rfl, Below.refl _ _⟩)
end Go.Proofs.Qxb6603871aDoor
