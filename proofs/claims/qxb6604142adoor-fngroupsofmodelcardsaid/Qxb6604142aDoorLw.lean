import Derived.Test.Qxb6604142aDoorGr
import Derived.BigQuiet
set_option linter.unusedVariables false
set_option linter.unusedSimpArgs false
namespace Go.Proofs.Qxb6604142aDoor
open Go.RowKit Go.PlainAid

/-- From w to w' only draws. -/
def Drw (w w' : World) : Prop := ∃ m, w' = w.drewN m
theorem Drw.refl (w : World) : Drw w w := ⟨0, (World.drewN_zero w).symm⟩
theorem Drw.drew {a b : World} (h : Drw a b) (n : Nat) : Drw a (b.drewN n) := by
  obtain ⟨m, rfl⟩ := h; exact ⟨m + n, World.drewN_drewN _ _ _⟩
theorem Drw.below {a b : World} (h : Drw a b) : Below a.heap.size a b := by obtain ⟨m, rfl⟩ := h; exact below_drewN (Below.refl _ _) m

theorem rn_len (v : ByteArray) : ∀ d i st, (rn v d i st).length ≤ d + 1
  | 0, i, st => by unfold rn; split <;> simp
  | d + 1, i, st => by
    unfold rn
    have h1 := rn_len v d (i + 1) (i + 1)
    have h2 := rn_len v d (i + 1) st
    split
    · split <;> simp <;> omega
    · omega
/-- What is left at a dot, or at the end. -/
def rest (v : ByteArray) (i : Nat) : List ByteArray := if i + 1 ≤ v.size then rn v (v.size - (i + 1)) (i + 1) (i + 1) else []
theorem rn_cut (v : ByteArray) (i st : Nat) (hi : i ≤ v.size) (hc : i = v.size ∨ bt v i = 46) : rn v (v.size - i) i st = (if st < i then [v.extract st i] else []) ++ rest v i := by
  by_cases e : i = v.size
  · rw [rest, if_neg (show ¬ i + 1 ≤ v.size by omega), show v.size - i = 0 by omega, List.append_nil]; rfl
  · rw [rest, if_pos (show i + 1 ≤ v.size by omega), show v.size - i = (v.size - (i + 1)) + 1 by omega, rn, if_pos (hc.resolve_left e)]
theorem rn_go (v : ByteArray) (i st : Nat) (hi : i < v.size) (hc : bt v i ≠ 46) : rn v (v.size - i) i st = rn v (v.size - (i + 1)) (i + 1) st := by
  rw [show v.size - i = (v.size - (i + 1)) + 1 by omega, rn, if_neg hc]
theorem drop_cons {R t : List ByteArray} {n : Nat} {x : ByteArray} (h : R.drop n = x :: t) : n < R.length ∧ R.getD n ByteArray.empty = x ∧ R.drop (n + 1) = t := by
  have hn : n < R.length := by
    by_cases e : n < R.length
    · exact e
    · rw [List.drop_eq_nil_of_le (by omega)] at h; cases h
  rw [List.drop_eq_getElem_cons hn] at h
  injection h with h1 h2
  refine ⟨hn, ?_, h2⟩
  rw [List.getD_eq_getElem?_getD, List.getElem?_eq_getElem hn]
  exact h1
theorem drop_nil {R : List ByteArray} {n : Nat} (hn : n ≤ R.length) (h : R.drop n = []) : n = R.length := by
  have := List.drop_eq_nil_iff.1 h
  omega
/-- Where the scan stands. -/
structure At (v : ByteArray) (R : List ByteArray) (i n st : Nat) : Prop where
  le : n ≤ R.length
  on : i ≤ v.size → st ≤ i ∧ R.drop n = rn v (v.size - i) i st
  off : v.size < i → n = R.length
theorem At.next {v : ByteArray} {R : List ByteArray} {i n st : Nat} (h : At v R i n st) (hi : i < v.size) (hc : bt v i ≠ 46) : At v R (i + 1) n st where
  le := h.le
  on h1 := by
    have := h.on (by omega)
    refine ⟨by omega, ?_⟩
    rw [this.2, rn_go v i st hi hc]
  off h1 := by omega
theorem rest_at {v : ByteArray} {R : List ByteArray} {i n : Nat} (hn : n ≤ R.length) (hi : i ≤ v.size) (h : R.drop n = rest v i) : At v R (i + 1) n (i + 1) where
  le := hn
  on h1 := ⟨Nat.le_refl _, by rw [h]; unfold rest; rw [if_pos h1]⟩
  off h1 := by
    unfold rest at h
    rw [if_neg (by omega)] at h
    exact drop_nil hn h
theorem At.cut0 {v : ByteArray} {R : List ByteArray} {i n st : Nat} (h : At v R i n st) (hi : i ≤ v.size) (hc : i = v.size ∨ bt v i = 46) (hst : ¬ st < i) : At v R (i + 1) n (i + 1) := by
  have := (h.on hi).2
  rw [rn_cut v i st hi hc, if_neg hst, List.nil_append] at this
  exact rest_at h.le hi this
theorem At.cut1 {v : ByteArray} {R : List ByteArray} {i n st : Nat} (h : At v R i n st) (hi : i ≤ v.size) (hc : i = v.size ∨ bt v i = 46) (hst : st < i) : n < R.length ∧ R.getD n ByteArray.empty = v.extract st i ∧ At v R (i + 1) (n + 1) (i + 1) := by
  have := (h.on hi).2
  rw [rn_cut v i st hi hc, if_pos hst] at this
  obtain ⟨a, b, c⟩ := drop_cons this
  exact ⟨a, b, rest_at a hi c⟩

set_option maxHeartbeats 1000000 in
theorem bytes_any (t v : ByteArray) (w : World) (ht : t.size ≤ 140737488351232) (hv : v.size ≤ 140737488351232) :
    Calls Tryd.prog 4 #[.string t, .string v] w fun e w' => (∃ r, e = .returned (.bool r)) ∧ w' = w := by
  go_enter Tryd.func4, Tryd.ntmps4
  by_cases h1 : t.size ≤ 1048576
  · by_cases h2 : v.size ≤ 1048576
    · by_cases h3 : t.size + v.size ≤ 1048576
      · go_wp2
        all_goals (go_ret; exact ⟨⟨_, rfl⟩, rfl⟩)
      · go_wp2
        all_goals (go_ret; exact ⟨⟨_, rfl⟩, rfl⟩)
    · go_wp2
      all_goals (go_ret; exact ⟨⟨_, rfl⟩, rfl⟩)
  · go_wp2
    all_goals (go_ret; exact ⟨⟨_, rfl⟩, rfl⟩)

set_option maxHeartbeats 1000000 in
theorem zz_any (t v : ByteArray) (w : World) (Q : Value → World → Prop) (h : Calls Tryd.prog 6 #[.string t, .string v] w fun e w' => ∃ u, e = .returned u ∧ Q u w') :
    Calls Tryd.prog 5 #[.string t, .string v] w fun e w' => ∃ u, e = .returned u ∧ Q u w' := by
  have H := mkHid h
  clear h
  go_enter Tryd.func5, Tryd.ntmps5
  go_wp2_with fail
  refine (H.out).mono ?_
  rintro e w2 ⟨u, rfl, hu⟩
  go_wp2_with fail
  go_ret
  exact ⟨_, rfl, hu⟩

set_option maxHeartbeats 1000000 in
theorem groups_nil (t v : ByteArray) (w : World) (ht : (t.toList == [112, 97, 99, 107, 97, 103, 101, 115]) = false) (hv : v.toList.isEmpty = true) :
    Calls Tryd.prog 6 #[.string t, .string v] w fun e w' => ∃ u, e = .returned u ∧ u = .slice none 0 0 ∧ w' = w := by
  go_enter Tryd.func6, Tryd.ntmps6
  go_wp2
  go_ret
  exact ⟨_, rfl, rfl, rfl⟩
set_option maxHeartbeats 1000000 in
theorem groups_one (t v : ByteArray) (w : World) (ht : (t.toList == [112, 97, 99, 107, 97, 103, 101, 115]) = false) (hv : v.toList.isEmpty = false) :
    Calls Tryd.prog 6 #[.string t, .string v] w fun e w' => ∃ u, e = .returned u ∧ u = .slice (some ⟨w.heap.size, 0, none⟩) 1 1 ∧ w' = w.alloc (.cells #[.string v] 9) := by
  go_enter Tryd.func6, Tryd.ntmps6
  go_wp2
  go_ret
  exact ⟨_, rfl, rfl, rfl⟩

set_option maxRecDepth 100000 in
set_option maxHeartbeats 1000000 in
theorem law_any (t v : ByteArray) (w : World) (hsh : w.ShapedOpen Tryd.prog) (ht : t.size ≤ 140737488351232) (hv : v.size ≤ 140737488351232) :
    Calls Tryd.prog 3 #[.string t, .string v] w fun e w' => e = .returned (.bool true) ∧ Below w.heap.size w w' := by
  have HY := mkHid (bytes_any t v w ht hv)
  have HSh := mkHid hsh
  clear hsh
  go_enter Tryd.func3, Tryd.ntmps3
  go_wp2_with fail
  refine (HY.out).mono ?_
  rintro e w1 ⟨⟨r, rfl⟩, rfl⟩
  clear HY
  cases r
  · go_wp2
    go_ret
    exact ⟨rfl, Below.refl _ _⟩
  by_cases h1 : t.size ≤ 1048576
  · by_cases h2 : v.size ≤ 1048576
    · by_cases h3 : t.size + v.size ≤ 1048576
      · cases htp : (t.toList == [112, 97, 99, 107, 97, 103, 101, 115])
        · cases hve : v.toList.isEmpty
          · have HC := mkHid (zz_any t v w1 _ (groups_one t v w1 htp hve))
            go_wp2_with fail
            refine (HC.out).mono ?_
            rintro e w2 ⟨u, rfl, rfl, rfl⟩
            have he : (v.toList == v.toList) = true := by simp
            go_wp2
            go_ret
            exact ⟨rfl, (Below.refl _ _).alloc (Nat.le_refl _) _⟩
          · have HC := mkHid (zz_any t v w1 _ (groups_nil t v w1 htp hve))
            go_wp2_with fail
            refine (HC.out).mono ?_
            rintro e w2 ⟨u, rfl, rfl, rfl⟩
            have hnil := Lib.run_eql_slice_nil (P := Tryd.prog) w2 23 9 none 0 0 0 0 Tryd.underlying23
            go_wp2
            go_ret
            exact ⟨rfl, Below.refl _ _⟩
        · have HC := mkHid (zz_any t v w1 _ (groups_pk t v htp w1 HSh.out h2))
          have hR : (ps v).filter full = rn v v.size 0 0 := pieces_all v
          rw [hR] at HC
          have hA : At v (rn v v.size 0 0) 0 0 0 := ⟨Nat.zero_le _, fun _ => ⟨Nat.le_refl _, rfl⟩, fun h => by omega⟩
          have hRm := rn_len v v.size 0 0
          clear hR
          generalize rn v v.size 0 0 = R at HC hA hRm
          go_wp2_with fail
          refine (HC.out).mono ?_
          rintro e w2 ⟨u, rfl, hown, hbel, hnil⟩
          clear HC
          obtain ⟨o, cap, rfl, HO⟩ : ∃ o cap, u = .slice o R.length cap ∧ Hid ((R.length = 0 → o = none) ∧ (0 < R.length → ∃ g, o = some ⟨g, 0, none⟩ ∧ ∀ j, j < R.length → w2.cell? ⟨g, j, none⟩ = some (.string (R.getD j ByteArray.empty)))) := by
            rcases hown.2 with ⟨e1, e2⟩ | ⟨g, cap, cur, e1, _, _, _, _, _, _⟩
            · refine ⟨none, 0, by rw [e1, e2], fun _ => rfl, fun h => by omega⟩
            · refine ⟨some ⟨g, 0, none⟩, cap, e1, fun h => ?_, fun h => ⟨g, rfl, fun j hj => ?_⟩⟩
              · have := hnil (List.length_eq_zero_iff.1 h)
                rw [e1] at this
                cases this
              · rw [e1] at hown
                rw [hown.cellAt j (by omega), List.getD_eq_getElem?_getD]
                simp [hj]
          clear hown hnil
          have HBel := mkHid hbel
          clear hbel
          go_wp2_with fail
          go_loopg [6, 7, 8] (v.size + 1) (fun g v6 v7 v8 wr => ∃ i n st : Nat, i ≤ v.size + 1 ∧ g = v.size + 1 - i ∧ v6 = .int .i64 n ∧ v7 = .int .i64 st ∧ v8 = .int .i64 i ∧ Hid (At v R i n st) ∧ Drw w2 wr)
          case atStart => exact ⟨0, 0, 0, Nat.zero_le _, rfl, rfl, rfl, rfl, hA, Drw.refl _⟩
          case round =>
            clear hA
            obtain ⟨i, n, st, hi, rfl, rfl, rfl, rfl, HA, hd⟩ := hrel
            have hle := HA.out.le
            by_cases hil : i ≤ v.size
            · have hon := (HA.out.on hil).1
              by_cases hie : i = v.size
              · have hb1 : ((i : Int) == (v.size : Int)) = true := by simp [hie]
                have HIE := mkHid hie
                clear hie
                by_cases hst : st < i
                · obtain ⟨hn, hg, HA'⟩ := HA.out.cut1 hil (.inl HIE.out) hst
                  obtain ⟨g, rfl, hcells⟩ := HO.out.2 (by omega)
                  have hck := (hd.below.cell (p := ⟨g, n, none⟩) (World.block_lt_of_cell? w2 _ (hcells n hn))).trans (hcells n hn)
                  rw [hg] at hck
                  clear hg hcells HO
                  replace HA' := mkHid HA'
                  clear HA
                  have he : ((v.extract st i).toList == (v.extract st i).toList) = true := by simp
                  go_wp2_with fail
                  go_quiet (fail)
                  go_wp2_with fail
                  go_roundg (v.size + 1 - (i + 1))
                  case measure => omega
                  case rel => exact ⟨i + 1, n + 1, i + 1, by omega, rfl, by go_num, by go_num, by go_num, HA'.out, hd.drew _⟩
                · have HA' := mkHid (HA.out.cut0 hil (.inl HIE.out) hst)
                  clear HA
                  go_wp2_with fail
                  go_roundg (v.size + 1 - (i + 1))
                  case measure => omega
                  case rel => exact ⟨i + 1, n, i + 1, by omega, rfl, rfl, by go_num, by go_num, HA'.out, hd⟩
              · have hlt : i < v.size := by omega
                have hb1 : ((i : Int) == (v.size : Int)) = false := by simp; omega
                have hbt := get_bt v
                by_cases h46 : bt v i = 46
                · have hb2 : (bt v i == 46) = true := by simp [h46]
                  have H46 := mkHid h46
                  clear h46 hie
                  by_cases hst : st < i
                  · obtain ⟨hn, hg, HA'⟩ := HA.out.cut1 hil (.inr H46.out) hst
                    obtain ⟨g, rfl, hcells⟩ := HO.out.2 (by omega)
                    have hck := (hd.below.cell (p := ⟨g, n, none⟩) (World.block_lt_of_cell? w2 _ (hcells n hn))).trans (hcells n hn)
                    rw [hg] at hck
                    clear hg hcells HO
                    replace HA' := mkHid HA'
                    clear HA
                    have he : ((v.extract st i).toList == (v.extract st i).toList) = true := by simp
                    go_wp2_with fail
                    go_quiet (fail)
                    go_wp2_with fail
                    go_roundg (v.size + 1 - (i + 1))
                    case measure => omega
                    case rel => exact ⟨i + 1, n + 1, i + 1, by omega, rfl, by go_num, by go_num, by go_num, HA'.out, hd.drew _⟩
                  · have HA' := mkHid (HA.out.cut0 hil (.inr H46.out) hst)
                    clear HA
                    go_wp2_with fail
                    go_roundg (v.size + 1 - (i + 1))
                    case measure => omega
                    case rel => exact ⟨i + 1, n, i + 1, by omega, rfl, rfl, by go_num, by go_num, HA'.out, hd⟩
                · have hb2 : (bt v i == 46) = false := by simp [h46]
                  have HA' := mkHid (HA.out.next hlt h46)
                  clear HA h46 hie
                  go_wp2_with fail
                  go_roundg (v.size + 1 - (i + 1))
                  case measure => omega
                  case rel => exact ⟨i + 1, n, st, by omega, rfl, rfl, rfl, by go_num, HA'.out, hd⟩
            · obtain rfl := HA.out.off (by omega)
              clear HA
              by_cases hR0 : R.length = 0
              · obtain rfl := HO.out.1 hR0
                have hnil := fun w => Lib.run_eql_slice_nil (P := Tryd.prog) w 23 9 none R.length cap 0 0 Tryd.underlying23
                have hb3 : ((R.length : Int) == (R.length : Int)) = true := by simp
                have hb4 : ((R.length : Int) == 0) = true := beq_iff_eq.2 (by omega)
                clear hR0
                go_wp2
                go_ret
                exact ⟨rfl, HBel.out.trans ((hd.below).mono HBel.out.size)⟩
              · obtain ⟨g, rfl, hcells⟩ := HO.out.2 (by omega)
                clear hcells HO
                have hnil := fun w => Lib.run_eql_slice_nil (P := Tryd.prog) w 23 9 (some ⟨g, 0, none⟩) R.length cap 0 0 Tryd.underlying23
                have hb3 : ((R.length : Int) == (R.length : Int)) = true := by simp
                have hb4 : ((R.length : Int) == 0) = false := beq_eq_false_iff_ne.2 (by omega)
                go_wp2
                go_ret
                exact ⟨rfl, HBel.out.trans ((hd.below).mono HBel.out.size)⟩
      · go_wp2
        all_goals (go_ret; exact ⟨rfl, Below.refl _ _⟩)
    · go_wp2
      all_goals (go_ret; exact ⟨rfl, Below.refl _ _⟩)
  · go_wp2
    all_goals (go_ret; exact ⟨rfl, Below.refl _ _⟩)
end Go.Proofs.Qxb6604142aDoor
