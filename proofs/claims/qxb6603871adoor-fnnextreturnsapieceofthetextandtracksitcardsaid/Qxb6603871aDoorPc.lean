import Derived.Test.Qxb6603871aDoorNg
import Derived.Test.Qxb6603871aDoorPt
set_option linter.unusedVariables false
set_option linter.unusedSimpArgs false
namespace Go.Proofs.Qxb6603871aDoor
open Go.RowKit Go.PlainAid

set_option maxHeartbeats 1000000 in
theorem bytes13_any (sql : ByteArray) (i kind n : Int) (prev : ByteArray) (cr be : Bool) (depth : Int) (body ended : Bool) (w : World) (z0 : sql.size ≤ 140737488351232) (z4 : prev.size ≤ 140737488351232) :
    Calls Tryd.prog 13 #[.string sql, .int .i64 i, .int .i32 kind, .int .i64 n, .string prev, .bool cr, .bool be, .int .i64 depth, .bool body, .bool ended] w fun e w' => (∃ r, e = .returned (.bool r)) ∧ w' = w := by
  go_enter Tryd.func13, Tryd.ntmps13
  by_cases h1 : sql.size ≤ 1048576
  · by_cases h2 : prev.size ≤ 1048576
    · by_cases h3 : sql.size + prev.size ≤ 1048576
      · go_wp2
        all_goals (go_ret; exact ⟨⟨_, rfl⟩, rfl⟩)
      · go_wp2
        all_goals (go_ret; exact ⟨⟨_, rfl⟩, rfl⟩)
    · go_wp2
      all_goals (go_ret; exact ⟨⟨_, rfl⟩, rfl⟩)
  · go_wp2
    all_goals (go_ret; exact ⟨⟨_, rfl⟩, rfl⟩)

/-- What next does to a fresh lexer, not ended. -/
theorem next_fresh_n (s : ByteArray) (i : Nat) (kind n : Int) (prev : ByteArray) (cr be : Bool) (depth : Int) (body : Bool) (w : World) (m0 : Int) (hm : w.cell? ⟨0, 0, none⟩ = some (.int .i64 m0)) (hF : FoldTab w) (hp : i ≤ s.size) (hz : s.size ≤ 1048576) (hpv : prev.size ≤ 1048576) :
    Calls Tryd.prog 10 #[.string s, .int .i64 (i : Int), .int .i32 kind, .int .i64 n, .string prev, .bool cr, .bool be, .int .i64 depth, .bool body, .bool false] w
      fun e w' => ∃ x a0 a1 a2 a3 a4 a5 a6 a7 a8 a9, NextR s i ⟨s, i, kind, n, prev, cr, be, depth, body, false⟩ x ⟨a0, a1, a2, a3, a4, a5, a6, a7, a8, a9⟩ ∧ e = .returned (.tuple #[.string x, .agg #[.string a0, .int .i64 a1, .int .i32 a2, .int .i64 a3, .string a4, .bool a5, .bool a6, .int .i64 a7, .bool a8, .bool a9]]) ∧ Below w.heap.size w w' := by
  refine (zznext_of ⟨s, i, kind, n, prev, cr, be, depth, body, false⟩ w (fun x L' => NextR s i ⟨s, i, kind, n, prev, cr, be, depth, body, false⟩ x L') ?_).mono ?_
  · exact next_any s ⟨s, i, kind, n, prev, cr, be, depth, body, false⟩ i (w.heap.size + 1) w (zzW w ⟨s, i, kind, n, prev, cr, be, depth, body, false⟩) _ m0 hm (zzW_lex w _) (zzW_tk w _ hF) rfl rfl hp hz hpv rfl
  · rintro e w' ⟨x, ⟨a0, a1, a2, a3, a4, a5, a6, a7, a8, a9⟩, hR, rfl, hb⟩
    exact ⟨x, a0, a1, a2, a3, a4, a5, a6, a7, a8, a9, hR, rfl, hb⟩

set_option maxRecDepth 100000 in
set_option maxHeartbeats 4000000 in
theorem pc_any (sql : ByteArray) (i kind n : Int) (prev : ByteArray) (cr be : Bool) (depth : Int) (body ended : Bool) (w : World) (m0 : Int) (hm : w.cell? ⟨0, 0, none⟩ = some (.int .i64 m0)) (hF : FoldTab w) (z0 : sql.size ≤ 140737488351232) (z4 : prev.size ≤ 140737488351232) :
    Calls Tryd.prog 4 #[.string sql, .int .i64 i, .int .i32 kind, .int .i64 n, .string prev, .bool cr, .bool be, .int .i64 depth, .bool body, .bool ended] w fun e w' => e = .returned (.bool true) ∧ Below w.heap.size w w' := by
  have HF := mkHid hF
  have HM := mkHid hm
  have HY := mkHid (bytes13_any sql i kind n prev cr be depth body ended w z0 z4)
  clear hF hm
  go_enter Tryd.func4, Tryd.ntmps4
  go_wp2_with fail
  refine (HY.out).mono ?_
  rintro e w1 ⟨⟨r, rfl⟩, rfl⟩
  clear HY
  cases r
  · go_wp2
    go_ret
    exact ⟨rfl, Below.refl _ _⟩
  by_cases h1 : sql.size ≤ 1048576
  · by_cases h2 : prev.size ≤ 1048576
    · by_cases h3 : sql.size + prev.size ≤ 1048576
      · by_cases h4 : 0 ≤ i
        · obtain ⟨i0, rfl⟩ : ∃ i0 : Nat, i = i0 := ⟨i.toNat, by omega⟩
          by_cases h5 : i0 ≤ sql.size
          · clear h4
            have HWb : Hid (∀ c w, 0 ≤ c → c ≤ 255 → Calls Tryd.prog 11 #[.int .u8 c] w fun e w' => e = .returned (.bool (wb c)) ∧ w' = w) := fun c w h0 h1 => wb_any c w h0 h1 _ rfl
            have d5 : decide (sql.size < i0) = false := decide_eq_false (by omega)
            have d0 : decide ((i0 : Int) < 0) = false := decide_eq_false (by omega)
            cases ended
            · have HN := mkHid (next_fresh_n sql i0 kind n prev cr be depth body w1 m0 HM.out HF.out h5 h1 h2)
              go_wp2_with fail
              refine (HN.out).mono ?_
              rintro e w2 ⟨x, a0, a1, a2, a3, a4, a5, a6, a7, a8, a9, hR, rfl, hb2⟩
              have HB2 := mkHid hb2
              have HF2 := mkHid (HF.out.below hb2)
              clear HN hb2 HF HM d0 d5
              rcases hR with hR | hR | hR | hR
              · skip
                obtain ⟨hx, j, hij, hjs, h92, hl⟩ := hR
                replace hl := hl.symm
                injection hl with q0 q1 q2 q3 q4 q5 q6 q7 q8 q9
                subst q0 q1 q2 q3 q4 q5 q6 q7 q8 q9
                subst hx
                clear HWb HF2
                have d1 : decide ((j : Int) < (i0 : Int)) = false := decide_eq_false (by omega)
                have d2 : decide ((sql.size : Int) + 1 < (j : Int)) = false := decide_eq_false (by omega)
                by_cases hjE : j = sql.size + 1
                · have h92' := h92 hjE
                  have hpos : 0 < sql.size := by
                    by_cases e : sql.size = 0
                    · exfalso
                      rw [bt_end sql (by omega)] at h92'
                      omega
                    · omega
                  obtain ⟨m, hm⟩ : ∃ m, sql.size = m + 1 := ⟨sql.size - 1, by omega⟩
                  have e0 : (((m + 1 : Nat) : Int) == 0) = false := beq_eq_false_iff_ne.2 (by omega)
                  have hb92 : (bt sql (sql.size - 1) == 92) = true := beq_iff_eq.2 h92'
                  have e1 : ((j : Int) == (sql.size : Int) + 1) = true := beq_iff_eq.2 (by omega)
                  have e2 : ((sql.size : Int) == 0) = false := beq_eq_false_iff_ne.2 (by omega)
                  have hbt := get_bt sql
                  have hlt1 : sql.size - 1 < sql.size := by omega
                  clear h92 h92' hjE hm e0
                  go_wp2
                  all_goals (go_ret; exact ⟨rfl, (HB2.out.alloc HB2.out.size _).alloc (by have := HB2.out.size; simp; omega) _⟩)
                · have e1 : ((j : Int) == (sql.size : Int) + 1) = false := beq_eq_false_iff_ne.2 (by omega)
                  clear h92 hjE
                  go_wp2
                  all_goals (go_ret; exact ⟨rfl, (HB2.out.alloc HB2.out.size _).alloc (by have := HB2.out.size; simp; omega) _⟩)
              · obtain ⟨st, j, hij, hst, hj, hx, hK, hl⟩ := hR
                obtain ⟨m, rfl⟩ : ∃ m, j = st + (m + 1) := ⟨j - st - 1, by omega⟩
                have hxs : x.size = m + 1 := by rw [hx]; simp [ByteArray.size_extract]; omega
                have HXb : Hid (∀ k, k < m + 1 → bt x k = bt sql (st + k)) := fun k hk => by rw [hx]; exact bt_extract sql st _ k (by omega) hj
                have e21 : ((sql.extract st (st + (m + 1))).toList == x.toList) = true := by rw [hx]; simp
                have hne : x.toList.isEmpty = false := by
                  cases h : x.toList.isEmpty
                  · rfl
                  · exfalso
                    have h2 : x.toList.length = x.size := by rw [Go.ByteArray.toList_eq]; simp
                    rw [List.isEmpty_iff.1 h] at h2
                    simp at h2
                    omega
                have hbx := get_bt x
                clear hx
                replace hl := hl.symm
                injection hl with q0 q1 q2 q3 q4 q5 q6 q7 q8 q9
                subst q0 q1 q2 q3 q4 q5 q6 q7 q8 q9
                clear HWb HF2
                have hb0 := HXb.out 0 (by omega)
                rw [Nat.add_zero] at hb0
                have d1 : decide (((st + (m + 1) : Nat) : Int) < (i0 : Int)) = false := decide_eq_false (by omega)
                have d6 : ((m + 1 : Nat) : Int) ≤ ((st + (m + 1) : Nat) : Int) - (i0 : Int) := by omega
                simp only at hK
                rcases hK with ⟨hq, hk⟩ | ⟨hq, hk⟩
                · have f34 : (bt x 0 == 34) = true := by rw [hb0, hq]; rfl
                  have fk : (kind == 2) = true := by rw [hk]; rfl
                  clear hq hk hb0 HXb
                  go_wp2
                  all_goals (go_ret; exact ⟨rfl, (HB2.out.alloc HB2.out.size _).alloc (by have := HB2.out.size; simp; omega) _⟩)
                · have f34 : (bt x 0 == 34) = false := by rw [hb0, hq]; rfl
                  have f96 : (bt x 0 == 96) = true := by rw [hb0, hq]; rfl
                  have fk : (kind == 3) = true := by rw [hk]; rfl
                  clear hq hk hb0 HXb
                  go_wp2
                  all_goals (go_ret; exact ⟨rfl, (HB2.out.alloc HB2.out.size _).alloc (by have := HB2.out.size; simp; omega) _⟩)
              · skip
                obtain ⟨hk, hx, j, hij, hj, h64, hl⟩ := hR
                obtain ⟨m, rfl⟩ : ∃ m, j = m + 1 := ⟨j - 1, by omega⟩
                rw [Nat.add_sub_cancel] at h64
                have hxx : x = sql.extract m (m + 1) := by
                  rw [hx]
                  apply eq_of_bt
                  · show 1 = _
                    simp [ByteArray.size_extract]; omega
                  · intro k hk
                    have hk0 : k = 0 := by simp [ByteArray.size_extract] at hk; omega
                    subst hk0
                    rw [bt_extract sql m (m + 1) 0 (by omega) hj, Nat.add_zero, h64]
                    rfl
                have hxs : x.size = 1 := by rw [hx]; rfl
                have e21 : ((sql.extract m (m + 1)).toList == x.toList) = true := by rw [hxx]; simp
                have hne : x.toList.isEmpty = false := by rw [hx, Go.ByteArray.toList_eq]; rfl
                have fat : (x.toList == [64]) = true := by rw [hx, Go.ByteArray.toList_eq]; rfl
                have f34 : (bt x 0 == 34) = false := by rw [hx]; rfl
                have f96 : (bt x 0 == 96) = false := by rw [hx]; rfl
                simp only at hk
                have fk : (kind == 3) = true := by rw [hk]; rfl
                have hbx := get_bt x
                clear hx hxx h64 hk
                replace hl := hl.symm
                injection hl with q0 q1 q2 q3 q4 q5 q6 q7 q8 q9
                subst q0 q1 q2 q3 q4 q5 q6 q7 q8 q9
                clear HWb HF2
                have d1 : decide (((m + 1 : Nat) : Int) < (i0 : Int)) = false := decide_eq_false (by omega)
                go_wp2
                all_goals (go_ret; exact ⟨rfl, (HB2.out.alloc HB2.out.size _).alloc (by have := HB2.out.size; simp; omega) _⟩)
              · skip
                obtain ⟨st, j, hij, hst, hj, hx, hw, h36, hnx, hl⟩ := hR
                obtain ⟨Lt, hLt⟩ : ∃ Lt, trackF ⟨sql, i0, kind, n, prev, cr, be, depth, body, false⟩ x = Lt := ⟨_, rfl⟩
                rw [hLt] at hl
                obtain ⟨m, rfl⟩ : ∃ m, j = st + (m + 1) := ⟨j - st - 1, by omega⟩
                have hxs : x.size = m + 1 := by rw [hx]; simp [ByteArray.size_extract]; omega
                have HXb : Hid (∀ k, k < m + 1 → bt x k = bt sql (st + k)) := fun k hk => by rw [hx]; exact bt_extract sql st _ k (by omega) hj
                have e21 : ((sql.extract st (st + (m + 1))).toList == x.toList) = true := by rw [hx]; simp
                have hne : x.toList.isEmpty = false := by
                  cases h : x.toList.isEmpty
                  · rfl
                  · exfalso
                    have h2 : x.toList.length = x.size := by rw [Go.ByteArray.toList_eq]; simp
                    rw [List.isEmpty_iff.1 h] at h2
                    simp at h2
                    omega
                have hbx := get_bt x
                clear hx
                have HW : Hid (∀ k, k < m + 1 → wd (bt x k) = true) := fun k hk => by rw [HXb.out k hk]; exact hw _ (by omega) (by omega)
                have hw0 := HW.out 0 (by omega)
                have f34 : (bt x 0 == 34) = false := by
                  cases h : (bt x 0 == 34)
                  · rfl
                  · rw [beq_iff_eq.1 h] at hw0; exact absurd hw0 (by decide)
                have f96 : (bt x 0 == 96) = false := by
                  cases h : (bt x 0 == 96)
                  · rfl
                  · rw [beq_iff_eq.1 h] at hw0; exact absurd hw0 (by decide)
                have fat : (x.toList == [64]) = false := by
                  cases h : (x.toList == [64])
                  · rfl
                  · exfalso
                    have h2 := beq_iff_eq.1 h
                    rw [Go.ByteArray.toList_eq] at h2
                    have h3 : x = ⟨#[64]⟩ := by apply ByteArray.ext; apply Array.toList_inj.1; exact h2
                    rw [h3] at hw0
                    exact absurd hw0 (by decide)
                have HK36 : Hid ((bt x 0 == 36) = true → (kind == 2) = false) := fun h => by
                  have h4 := beq_iff_eq.1 h
                  rw [HXb.out 0 (by omega), Nat.add_zero] at h4
                  exact beq_eq_false_iff_ne.2 (h36 h4)
                have HNx := mkHid hnx
                have HTr : Hid (∀ w, FoldTab w → Calls Tryd.prog 12 #[.string sql, .int .i64 (i0 : Int), .int .i32 kind, .int .i64 n, .string prev, .bool cr, .bool be, .int .i64 depth, .bool body, .bool false, .string x] w
                    fun e w' => e = .returned (.agg #[.string Lt.sql, .int .i64 Lt.i, .int .i32 Lt.kind, .int .i64 Lt.n, .string Lt.prev, .bool Lt.cr, .bool Lt.be, .int .i64 Lt.depth, .bool Lt.body, .bool Lt.ended]) ∧ Below w.heap.size w w') := fun w hw =>
                  zztrack_any ⟨sql, i0, kind, n, prev, cr, be, depth, body, false⟩ x w hw (by omega) h2 Lt hLt
                clear hw hw0 h36 hnx hLt HXb
                replace hl := hl.symm
                injection hl with q0 q1 q2 q3 q4 q5 q6 q7 q8 q9
                subst q0 q1 q2 q3 q4 q5 q6 q7 q8 q9
                have d1 : decide (((st + (m + 1) : Nat) : Int) < (i0 : Int)) = false := decide_eq_false (by omega)
                go_wp2_with fail
                generalize hE : World.alloc (World.alloc w2 _) _ = W3
                have hA3 : LexAt W3 w2.heap.size ⟨Lt.sql, ((st + (m + 1) : Nat) : Int), Lt.kind, Lt.n, Lt.prev, Lt.cr, Lt.be, Lt.depth, Lt.body, Lt.ended⟩ := by
                  rw [← hE]
                  exact (alloc_lex w2 ⟨Lt.sql, ((st + (m + 1) : Nat) : Int), Lt.kind, Lt.n, Lt.prev, Lt.cr, Lt.be, Lt.depth, Lt.body, Lt.ended⟩ 25).below (by simp) ((Below.refl _ _).alloc (Nat.le_refl _) _)
                have hz3 : w2.heap.size < W3.heap.size := by rw [← hE]; simp; omega
                have HB3 : Hid (Below w1.heap.size w1 W3) := by show Below _ _ _; rw [← hE]; exact (HB2.out.alloc HB2.out.size _).alloc (by have := HB2.out.size; simp; omega) _
                have HF3 : Hid (FoldTab W3) := by show FoldTab _; rw [← hE]; exact HF2.out.below (((Below.refl _ _).alloc (Nat.le_refl _) _).alloc (by simp) _)
                have c1' := hA3.c1
                simp only at c1'
                have HA3 := mkHid hA3
                clear hE hA3 HF2 HB2
                go_loopg [24] (m + 1) (fun g v wr => ∃ k : Nat, k ≤ m + 1 ∧ g = m + 1 - k ∧ v = .int .i64 k ∧ W3 = wr)
                case atStart => exact ⟨0, Nat.zero_le _, rfl, rfl, rfl⟩
                case round =>
                  obtain ⟨k, hk, rfl, rfl, rfl⟩ := hrel
                  by_cases hkl : k < m + 1
                  · have hwk := HW.out k hkl
                    have hn0 := bt_nonneg x k
                    have hn1 := bt_le x k
                    go_wp2_with fail
                    refine (HWb.out _ _ hn0 hn1).mono ?_
                    rintro e w3 ⟨rfl, hw3⟩
                    subst hw3
                    cases hwb : wb (bt x k)
                    · have k36 : (bt x k == 36) = true := by unfold wd at hwk; rw [hwb, Bool.false_or] at hwk; exact hwk
                      clear hwk hwb
                      go_wp2_with fail
                      go_roundg (m + 1 - (k + 1))
                      case measure => omega
                      case rel => exact ⟨k + 1, by omega, rfl, by go_num, rfl⟩
                    · clear hwk hwb
                      go_wp2_with fail
                      go_roundg (m + 1 - (k + 1))
                      case measure => omega
                      case rel => exact ⟨k + 1, by omega, rfl, by go_num, rfl⟩
                  · obtain rfl : k = m + 1 := by omega
                    clear hkl
                    cases f36 : (bt x 0 == 36)
                    · clear HK36
                      by_cases hjn : st + (m + 1) < sql.size
                      · have dn : decide (((st + (m + 1) : Nat) : Int) < (sql.size : Int)) = true := decide_eq_true (by omega)
                        have hnx' := HNx.out hjn
                        unfold wd at hnx'
                        simp only [Bool.or_eq_false_iff] at hnx'
                        obtain ⟨hnw, hn36⟩ := hnx'
                        have hbs := get_bt sql
                        go_wp2_with fail
                        refine (HWb.out _ _ (bt_nonneg sql (st + (m + 1))) (bt_le sql (st + (m + 1)))).mono ?_
                        rintro e w3 ⟨rfl, hw3⟩
                        subst hw3
                        rw [hnw]
                        go_wp2_with fail
                        refine (HTr.out _ HF3.out).mono ?_
                        rintro e w4 ⟨rfl, hb4⟩
                        have hA4 := HA3.out.below hz3 hb4
                        have hz4 : w2.heap.size < w4.heap.size := by have := hb4.size; omega
                        have HB4 := mkHid (HB3.out.trans (hb4.mono HB3.out.size))
                        clear hb4 HTr HF3 HB3 c1'
                        obtain ⟨c0, c1, c2, c3, c4, c5, c6, c7, c8, c9, f⟩ := hA4
                        simp only at c0 c1 c2 c3 c4 c5 c6 c7 c8 c9
                        clear f
                        go_wp2
                        go_ret
                        exact ⟨rfl, HB4.out.alloc HB4.out.size _⟩
                      · have dn : decide (((st + (m + 1) : Nat) : Int) < (sql.size : Int)) = false := decide_eq_false (by omega)
                        go_wp2_with fail
                        refine (HTr.out _ HF3.out).mono ?_
                        rintro e w4 ⟨rfl, hb4⟩
                        have hA4 := HA3.out.below hz3 hb4
                        have hz4 : w2.heap.size < w4.heap.size := by have := hb4.size; omega
                        have HB4 := mkHid (HB3.out.trans (hb4.mono HB3.out.size))
                        clear hb4 HTr HF3 HB3 c1'
                        obtain ⟨c0, c1, c2, c3, c4, c5, c6, c7, c8, c9, f⟩ := hA4
                        simp only at c0 c1 c2 c3 c4 c5 c6 c7 c8 c9
                        clear f
                        go_wp2
                        go_ret
                        exact ⟨rfl, HB4.out.alloc HB4.out.size _⟩
                    · have fk2 := HK36.out f36
                      clear HK36
                      by_cases hjn : st + (m + 1) < sql.size
                      · have dn : decide (((st + (m + 1) : Nat) : Int) < (sql.size : Int)) = true := decide_eq_true (by omega)
                        have hnx' := HNx.out hjn
                        unfold wd at hnx'
                        simp only [Bool.or_eq_false_iff] at hnx'
                        obtain ⟨hnw, hn36⟩ := hnx'
                        have hbs := get_bt sql
                        go_wp2_with fail
                        refine (HWb.out _ _ (bt_nonneg sql (st + (m + 1))) (bt_le sql (st + (m + 1)))).mono ?_
                        rintro e w3 ⟨rfl, hw3⟩
                        subst hw3
                        rw [hnw]
                        go_wp2_with fail
                        refine (HTr.out _ HF3.out).mono ?_
                        rintro e w4 ⟨rfl, hb4⟩
                        have hA4 := HA3.out.below hz3 hb4
                        have hz4 : w2.heap.size < w4.heap.size := by have := hb4.size; omega
                        have HB4 := mkHid (HB3.out.trans (hb4.mono HB3.out.size))
                        clear hb4 HTr HF3 HB3 c1'
                        obtain ⟨c0, c1, c2, c3, c4, c5, c6, c7, c8, c9, f⟩ := hA4
                        simp only at c0 c1 c2 c3 c4 c5 c6 c7 c8 c9
                        clear f
                        go_wp2
                        go_ret
                        exact ⟨rfl, HB4.out.alloc HB4.out.size _⟩
                      · have dn : decide (((st + (m + 1) : Nat) : Int) < (sql.size : Int)) = false := decide_eq_false (by omega)
                        go_wp2_with fail
                        refine (HTr.out _ HF3.out).mono ?_
                        rintro e w4 ⟨rfl, hb4⟩
                        have hA4 := HA3.out.below hz3 hb4
                        have hz4 : w2.heap.size < w4.heap.size := by have := hb4.size; omega
                        have HB4 := mkHid (HB3.out.trans (hb4.mono HB3.out.size))
                        clear hb4 HTr HF3 HB3 c1'
                        obtain ⟨c0, c1, c2, c3, c4, c5, c6, c7, c8, c9, f⟩ := hA4
                        simp only at c0 c1 c2 c3 c4 c5 c6 c7 c8 c9
                        clear f
                        go_wp2
                        go_ret
                        exact ⟨rfl, HB4.out.alloc HB4.out.size _⟩
            · have HN := mkHid (next_fresh_e sql i0 kind n prev cr be depth body w1 HF.out)
              clear HWb HM
              go_wp2_with fail
              refine (HN.out).mono ?_
              rintro e w2 ⟨rfl, hb2⟩
              have HB2 := mkHid hb2
              clear HN hb2 HF
              go_wp2
              go_ret
              exact ⟨rfl, (HB2.out.alloc HB2.out.size _).alloc (by have := HB2.out.size; simp; omega) _⟩
          · go_wp2
            all_goals (go_ret; exact ⟨rfl, Below.refl _ _⟩)
        · go_wp2
          all_goals (go_ret; exact ⟨rfl, Below.refl _ _⟩)
      · go_wp2
        all_goals (go_ret; exact ⟨rfl, Below.refl _ _⟩)
    · go_wp2
      all_goals (go_ret; exact ⟨rfl, Below.refl _ _⟩)
  · go_wp2
    all_goals (go_ret; exact ⟨rfl, Below.refl _ _⟩)
end Go.Proofs.Qxb6603871aDoor
