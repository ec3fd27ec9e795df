import Derived.Test.Qxb6603871aDoorNx
import Derived.Test.Qxb6603871aDoorZzn
import Derived.Test.Qxb6603871aDoorBll
import Derived.Laws.StructEq
set_option linter.unusedVariables false
set_option linter.unusedSimpArgs false
namespace Go.Proofs.Qxb6603871aDoor
open Go.RowKit Go.PlainAid

set_option maxHeartbeats 1000000 in
theorem bytes8_any (sql : ByteArray) (i kind n : Int) (prev : ByteArray) (cr be : Bool) (depth : Int) (body ended : Bool) (w : World) (z0 : sql.size ≤ 140737488351232) (z4 : prev.size ≤ 140737488351232) :
    Calls Tryd.prog 8 #[.string sql, .int .i64 i, .int .i32 kind, .int .i64 n, .string prev, .bool cr, .bool be, .int .i64 depth, .bool body, .bool ended] w fun e w' => (∃ r, e = .returned (.bool r)) ∧ w' = w := by
  go_enter Tryd.func8, Tryd.ntmps8
  by_cases h1 : sql.size ≤ 1048576
  · by_cases h2 : prev.size ≤ 1048576
    · by_cases h3 : sql.size + prev.size ≤ 1048576
      · go_wp2
        all_goals (go_ret; exact ⟨⟨_, rfl⟩, rfl⟩)
      · go_wp2
        all_goals (go_ret; exact ⟨⟨_, rfl⟩, rfl⟩)
    · go_wp2
      all_goals (go_ret; exact ⟨⟨_, rfl⟩, rfl⟩)
  · go_wp2
    all_goals (go_ret; exact ⟨⟨_, rfl⟩, rfl⟩)

/-- What next does to a fresh lexer whose statement has ended. -/
theorem next_fresh_e (s : ByteArray) (i kind n : Int) (prev : ByteArray) (cr be : Bool) (depth : Int) (body : Bool) (w : World) (hF : FoldTab w) :
    Calls Tryd.prog 10 #[.string s, .int .i64 i, .int .i32 kind, .int .i64 n, .string prev, .bool cr, .bool be, .int .i64 depth, .bool body, .bool true] w
      fun e w' => e = .returned (.tuple #[.string ⟨#[]⟩, .agg #[.string s, .int .i64 i, .int .i32 kind, .int .i64 n, .string prev, .bool cr, .bool be, .int .i64 depth, .bool body, .bool true]]) ∧ Below w.heap.size w w' := by
  refine (zznext_of ⟨s, i, kind, n, prev, cr, be, depth, body, true⟩ w (fun x L' => x = ⟨#[]⟩ ∧ L' = ⟨s, i, kind, n, prev, cr, be, depth, body, true⟩) ?_).mono ?_
  · refine (next_ended ⟨s, i, kind, n, prev, cr, be, depth, body, true⟩ (w.heap.size + 1) w (zzW w ⟨s, i, kind, n, prev, cr, be, depth, body, true⟩) _ (zzW_lex w _) (zzW_tk w _ hF) rfl).mono ?_
    rintro e w' ⟨rfl, h1, h2⟩
    exact ⟨_, _, rfl, ⟨rfl, rfl⟩, h1, h2⟩
  · rintro e w' ⟨x, L', ⟨rfl, rfl⟩, rfl, hb⟩
    exact ⟨rfl, hb⟩
/-- .. and to one at a plain text, not ended. -/
theorem next_fresh_p (s : ByteArray) (i : Nat) (kind n : Int) (prev : ByteArray) (cr be : Bool) (depth : Int) (body : Bool) (w : World) (hF : FoldTab w) (hp : i ≤ s.size) (hz : s.size ≤ 1048576) (hpv : prev.size ≤ 1048576) (hpl : Plain s i) (P : Nat) (hP : fp s (depth == 0 && !body) (s.size - i) i = P) (x : ByteArray) (a0 : ByteArray) (a1 a2 a3 : Int) (a4 : ByteArray) (a5 a6 : Bool) (a7 : Int) (a8 a9 : Bool) (hx : x = nxW s P) (hl : Lx.mk a0 a1 a2 a3 a4 a5 a6 a7 a8 a9 = nxL s ⟨s, i, kind, n, prev, cr, be, depth, body, false⟩ P) :
    Calls Tryd.prog 10 #[.string s, .int .i64 (i : Int), .int .i32 kind, .int .i64 n, .string prev, .bool cr, .bool be, .int .i64 depth, .bool body, .bool false] w
      fun e w' => e = .returned (.tuple #[.string x, .agg #[.string a0, .int .i64 a1, .int .i32 a2, .int .i64 a3, .string a4, .bool a5, .bool a6, .int .i64 a7, .bool a8, .bool a9]]) ∧ Below w.heap.size w w' := by
  refine (zznext_of ⟨s, i, kind, n, prev, cr, be, depth, body, false⟩ w (fun x' L' => x' = x ∧ L' = Lx.mk a0 a1 a2 a3 a4 a5 a6 a7 a8 a9) ?_).mono ?_
  · refine (next_plain s ⟨s, i, kind, n, prev, cr, be, depth, body, false⟩ i (w.heap.size + 1) w (zzW w ⟨s, i, kind, n, prev, cr, be, depth, body, false⟩) _ (zzW_lex w _) (zzW_tk w _ hF) rfl rfl hp hz hpv hpl rfl _ rfl P hP).mono ?_
    rintro e w' ⟨rfl, h1, h2⟩
    exact ⟨_, _, rfl, ⟨hx.symm, hl.symm⟩, h1, h2⟩
  · rintro e w' ⟨x', L', ⟨h1, h2⟩, rfl, hb⟩
    subst h1
    subst h2
    exact ⟨rfl, hb⟩

set_option maxRecDepth 100000 in
set_option maxHeartbeats 1000000 in
theorem pt_any (sql : ByteArray) (i kind n : Int) (prev : ByteArray) (cr be : Bool) (depth : Int) (body ended : Bool) (w : World) (hF : FoldTab w) (z0 : sql.size ≤ 140737488351232) (z4 : prev.size ≤ 140737488351232) :
    Calls Tryd.prog 3 #[.string sql, .int .i64 i, .int .i32 kind, .int .i64 n, .string prev, .bool cr, .bool be, .int .i64 depth, .bool body, .bool ended] w fun e w' => e = .returned (.bool true) ∧ Below w.heap.size w w' := by
  have HF := mkHid hF
  have HY := mkHid (bytes8_any sql i kind n prev cr be depth body ended w z0 z4)
  clear hF
  go_enter Tryd.func3, Tryd.ntmps3
  go_wp2_with fail
  refine (HY.out).mono ?_
  rintro e w1 ⟨⟨r, rfl⟩, rfl⟩
  clear HY
  cases r
  · go_wp2
    go_ret
    exact ⟨rfl, Below.refl _ _⟩
  by_cases h1 : sql.size ≤ 1048576
  · by_cases h2 : prev.size ≤ 1048576
    · by_cases h3 : sql.size + prev.size ≤ 1048576
      · by_cases h4 : 0 ≤ i
        · obtain ⟨i0, rfl⟩ : ∃ i0 : Nat, i = i0 := ⟨i.toNat, by omega⟩
          by_cases h5 : i0 ≤ sql.size
          · clear h4
            have HSb : Hid (∀ c w, 0 ≤ c → c ≤ 255 → Calls Tryd.prog 9 #[.int .u8 c] w fun e w' => e = .returned (.bool (sb c)) ∧ w' = w) := fun c w h0 h1 => sb_any c w h0 h1 _ rfl
            have HWb : Hid (∀ c w, 0 ≤ c → c ≤ 255 → Calls Tryd.prog 11 #[.int .u8 c] w fun e w' => e = .returned (.bool (wb c)) ∧ w' = w) := fun c w h0 h1 => wb_any c w h0 h1 _ rfl
            have d5 : decide (sql.size < i0) = false := decide_eq_false (by omega)
            have d0 : decide ((i0 : Int) < 0) = false := decide_eq_false (by omega)
            go_wp2_with fail
            try rw [d5]
            try rw [d0]
            clear d5 d0
            go_loopg [21] (sql.size - i0) (fun g v wr => ∃ p : Nat, i0 ≤ p ∧ p ≤ sql.size ∧ g = sql.size - p ∧ v = .int .i64 p ∧ Hid (∀ k, i0 ≤ k → k < p → sb (bt sql k) = false) ∧ w1 = wr)
            case atStart => exact ⟨i0, Nat.le_refl _, h5, rfl, rfl, fun k a b => by omega, rfl⟩
            case round =>
              obtain ⟨p, hp1, hp2, rfl, rfl, HJ, rfl⟩ := hrel
              have hbt := get_bt sql
              by_cases hpl : p < sql.size
              · have hn0 := bt_nonneg sql p
                have hn1 := bt_le sql p
                go_wp2_with fail
                refine (HSb.out _ _ hn0 hn1).mono ?_
                rintro e w2 ⟨rfl, rfl⟩
                cases hsb : sb (bt sql p)
                · go_wp2_with fail
                  go_roundg (sql.size - (p + 1))
                  case measure => omega
                  case rel => exact ⟨p + 1, by omega, by omega, rfl, by go_num, fun k a b => (by
                    by_cases e : k = p
                    · rw [e]; exact hsb
                    · exact HJ.out k a (by omega)), rfl⟩
                · clear hsb
                  go_wp2
                  go_ret
                  exact ⟨rfl, Below.refl _ _⟩
              · obtain rfl : p = sql.size := by omega
                clear hpl hp1 hp2
                obtain ⟨P, hP⟩ : ∃ P, fp sql (depth == 0 && !body) (sql.size - i0) i0 = P := ⟨_, rfl⟩
                clear HSb
                cases ended
                · obtain ⟨x, hx⟩ : ∃ x, x = nxW sql P := ⟨_, rfl⟩
                  obtain ⟨⟨a0, a1, a2, a3, a4, a5, a6, a7, a8, a9⟩, hl⟩ : ∃ L2, L2 = nxL sql ⟨sql, i0, kind, n, prev, cr, be, depth, body, false⟩ P := ⟨_, rfl⟩
                  have HN := mkHid (next_fresh_p sql i0 kind n prev cr be depth body w1 HF.out h5 h1 h2 HJ.out P hP x a0 a1 a2 a3 a4 a5 a6 a7 a8 a9 hx hl)
                  have HX := mkHid hx
                  have HL2 := mkHid hl
                  have HP := mkHid hP
                  clear hP hx hl HJ
                  go_wp2_with fail
                  refine (HN.out).mono ?_
                  rintro e w2 ⟨rfl, hb2⟩
                  have HB2 := mkHid hb2
                  have HF2 := mkHid (HF.out.below hb2)
                  clear HN hb2 HF
                  go_wp2_with fail
                  go_loopg [25] (sql.size - i0) (fun g v wr => ∃ p : Nat, i0 ≤ p ∧ p ≤ sql.size ∧ g = sql.size - p ∧ v = .int .i64 p ∧ Hid (fp sql (depth == 0 && !body) (sql.size - p) p = P) ∧ ((w2.alloc (.cells #[.string a0, .int .i64 a1, .int .i32 a2, .int .i64 a3, .string a4, .bool a5, .bool a6, .int .i64 a7, .bool a8, .bool a9] 25)).alloc (.cells #[.string sql, .int .i64 i0, .int .i32 kind, .int .i64 n, .string prev, .bool cr, .bool be, .int .i64 depth, .bool body, .bool true] 25)) = wr)
                  case atStart => exact ⟨i0, Nat.le_refl _, h5, rfl, rfl, HP.out, rfl⟩
                  case round =>
                    clear HP
                    obtain ⟨p, hp1, hp2, rfl, rfl, HP, rfl⟩ := hrel
                    by_cases hpl : p < sql.size
                    · have hn0 := bt_nonneg sql p
                      have hn1 := bt_le sql p
                      have hbt := get_bt sql
                      go_wp2_with fail
                      refine (HWb.out _ _ hn0 hn1).mono ?_
                      rintro e w3 ⟨rfl, hw3⟩
                      subst hw3
                      cases hwb : wb (bt sql p)
                      · cases h59 : (bt sql p == 59)
                        · have HG := mkHid (fp_go sql (depth == 0 && !body) p hpl (by rw [hwb, h59]; rfl))
                          clear hwb
                          go_wp2_with fail
                          go_roundg (sql.size - (p + 1))
                          case measure => omega
                          case rel => exact ⟨p + 1, by omega, by omega, rfl, by go_num, by show _ = _; rw [HG.out]; exact HP.out, rfl⟩
                        · cases hdp : (depth == 0)
                          · have HG := mkHid (fp_go sql (depth == 0 && !body) p hpl (by rw [hwb, h59, hdp]; rfl))
                            clear hwb
                            go_wp2_with fail
                            go_roundg (sql.size - (p + 1))
                            case measure => omega
                            case rel => exact ⟨p + 1, by omega, by omega, rfl, by go_num, by show _ = _; rw [HG.out]; exact HP.out, rfl⟩
                          · cases hbd : body
                            · subst hbd
                              have hPp : p = P := by rw [← HP.out]; exact (fp_stop sql _ p hpl (by rw [h59, hdp]; simp)).symm
                              subst hPp
                              have hq := HL2.out
                              rw [nxL, if_neg (by omega), if_pos h59] at hq
                              injection hq with q0 q1 q2 q3 q4 q5 q6 q7 q8 q9
                              subst q0 q1 q2 q3 q4 q5 q6 q7 q8 q9
                              have hx := HX.out
                              rw [nxW, if_neg (by omega), if_pos h59] at hx
                              subst hx
                              clear HL2 HX HP hwb HWb HF2
                              go_wp2
                              go_ret
                              exact ⟨rfl, (HB2.out.alloc HB2.out.size _).alloc (by have := HB2.out.size; simp; omega) _⟩
                            · subst hbd
                              have HG := mkHid (fp_go sql (depth == 0 && !true) p hpl (by rw [hwb, h59, hdp]; rfl))
                              clear hwb
                              go_wp2_with fail
                              go_roundg (sql.size - (p + 1))
                              case measure => omega
                              case rel => exact ⟨p + 1, by omega, by omega, rfl, by go_num, by show _ = _; rw [HG.out]; exact HP.out, rfl⟩
                      · have h59 : (bt sql p == 59) = false := by
                          cases h : (bt sql p == 59)
                          · rfl
                          · rw [beq_iff_eq.1 h] at hwb; cases hwb
                        have hPp : p = P := by rw [← HP.out]; exact (fp_stop sql _ p hpl (by rw [hwb]; rfl)).symm
                        subst hPp
                        obtain ⟨Q, hQ⟩ : ∃ Q, fq sql (sql.size - p) p = Q := ⟨_, rfl⟩
                        have HQ0 := mkHid hQ
                        clear hQ hwb
                        have e46 : ((p : Int) == (sql.size : Int)) = false := beq_eq_false_iff_ne.2 (by omega)
                        go_wp2_with fail
                        go_loopg [26] (sql.size - p) (fun g v wr => ∃ q : Nat, p ≤ q ∧ q ≤ sql.size ∧ g = sql.size - q ∧ v = .int .i64 q ∧ Hid (fq sql (sql.size - q) q = Q) ∧ ((w2.alloc (.cells #[.string a0, .int .i64 a1, .int .i32 a2, .int .i64 a3, .string a4, .bool a5, .bool a6, .int .i64 a7, .bool a8, .bool a9] 25)).alloc (.cells #[.string sql, .int .i64 i0, .int .i32 kind, .int .i64 n, .string prev, .bool cr, .bool be, .int .i64 depth, .bool body, .bool true] 25)) = wr)
                        case atStart => exact ⟨p, Nat.le_refl _, hp2, rfl, rfl, HQ0.out, rfl⟩
                        case round =>
                          obtain ⟨q, hq1, hq2, rfl, rfl, HQ, rfl⟩ := hrel
                          by_cases hql : q < sql.size
                          · have hm0 := bt_nonneg sql q
                            have hm1 := bt_le sql q
                            go_wp2_with fail
                            refine (HWb.out _ _ hm0 hm1).mono ?_
                            rintro e w3 ⟨rfl, hw3⟩
                            subst hw3
                            cases hwq : wb (bt sql q)
                            · skip
                              have hqQ : q = Q := by rw [← HQ.out]; exact (fq_stop sql q hql hwq).symm
                              have hq := HL2.out
                              rw [nxL, if_neg (by omega), if_neg (by rw [h59]; decide), HQ0.out] at hq
                              have hx := HX.out
                              rw [nxW, if_neg (by omega), if_neg (by rw [h59]; decide), HQ0.out] at hx
                              subst hqQ
                              subst hx
                              obtain ⟨Lt, hLt⟩ : ∃ Lt, trackF ⟨sql, i0, kind, n, prev, cr, be, depth, body, false⟩ (sql.extract p q) = Lt := ⟨_, rfl⟩
                              rw [hLt] at hq
                              have HTr : Hid (∀ w, FoldTab w → Calls Tryd.prog 12 #[.string sql, .int .i64 (i0 : Int), .int .i32 kind, .int .i64 n, .string prev, .bool cr, .bool be, .int .i64 depth, .bool body, .bool false, .string (sql.extract p q)] w
                                  fun e w' => e = .returned (.agg #[.string Lt.sql, .int .i64 Lt.i, .int .i32 Lt.kind, .int .i64 Lt.n, .string Lt.prev, .bool Lt.cr, .bool Lt.be, .int .i64 Lt.depth, .bool Lt.body, .bool Lt.ended]) ∧ Below w.heap.size w w') := fun w hw =>
                                zztrack_any ⟨sql, i0, kind, n, prev, cr, be, depth, body, false⟩ (sql.extract p q) w hw (by have := size_le_ext sql p q; omega) h2 Lt hLt
                              injection hq with q0 q1 q2 q3 q4 q5 q6 q7 q8 q9
                              subst q0 q1 q2 q3 q4 q5 q6 q7 q8 q9
                              clear HL2 HX HP HWb HQ HQ0 hLt
                              go_wp2_with fail
                              refine (HTr.out _ (HF2.out.below (((Below.refl _ _).alloc (Nat.le_refl _) _).alloc (by simp) _))).mono ?_
                              rintro e w4 ⟨rfl, hb4⟩
                              have hA : LexAt w4 w2.heap.size ⟨Lt.sql, q, Lt.kind, Lt.n, Lt.prev, Lt.cr, Lt.be, Lt.depth, Lt.body, Lt.ended⟩ := ((alloc_lex w2 ⟨Lt.sql, q, Lt.kind, Lt.n, Lt.prev, Lt.cr, Lt.be, Lt.depth, Lt.body, Lt.ended⟩ 25).below (by simp) ((Below.refl _ _).alloc (Nat.le_refl _) _)).below (by simp; omega) hb4
                              have hz4 : w2.heap.size < w4.heap.size := by have := hb4.size; simp at this; omega
                              have HB4 : Hid (Below w1.heap.size w1 w4) := ((HB2.out.alloc HB2.out.size _).alloc (by have := HB2.out.size; simp; omega) _).trans (hb4.mono (by have := HB2.out.size; simp; omega))
                              clear hb4 HTr HF2 HB2
                              obtain ⟨c0, c1, c2, c3, c4, c5, c6, c7, c8, c9, f⟩ := hA
                              simp only at c0 c1 c2 c3 c4 c5 c6 c7 c8 c9
                              clear f
                              go_wp2
                              go_ret
                              exact ⟨rfl, HB4.out.alloc HB4.out.size _⟩

                            · have HG := mkHid (fq_go sql q hql hwq)
                              clear hwq
                              go_wp2_with fail
                              go_roundg (sql.size - (q + 1))
                              case measure => omega
                              case rel => exact ⟨q + 1, by omega, by omega, rfl, by go_num, by show _ = _; rw [HG.out]; exact HQ.out, rfl⟩
                          · obtain rfl : q = sql.size := by omega
                            clear hql
                            have hqQ : sql.size = Q := by rw [← HQ.out]; exact (fq_end sql).symm
                            have hq := HL2.out
                            rw [nxL, if_neg (by omega), if_neg (by rw [h59]; decide), HQ0.out] at hq
                            have hx := HX.out
                            rw [nxW, if_neg (by omega), if_neg (by rw [h59]; decide), HQ0.out] at hx
                            subst hqQ
                            subst hx
                            obtain ⟨Lt, hLt⟩ : ∃ Lt, trackF ⟨sql, i0, kind, n, prev, cr, be, depth, body, false⟩ (sql.extract p sql.size) = Lt := ⟨_, rfl⟩
                            rw [hLt] at hq
                            have HTr : Hid (∀ w, FoldTab w → Calls Tryd.prog 12 #[.string sql, .int .i64 (i0 : Int), .int .i32 kind, .int .i64 n, .string prev, .bool cr, .bool be, .int .i64 depth, .bool body, .bool false, .string (sql.extract p sql.size)] w
                                fun e w' => e = .returned (.agg #[.string Lt.sql, .int .i64 Lt.i, .int .i32 Lt.kind, .int .i64 Lt.n, .string Lt.prev, .bool Lt.cr, .bool Lt.be, .int .i64 Lt.depth, .bool Lt.body, .bool Lt.ended]) ∧ Below w.heap.size w w') := fun w hw =>
                              zztrack_any ⟨sql, i0, kind, n, prev, cr, be, depth, body, false⟩ (sql.extract p sql.size) w hw (by have := size_le_ext sql p sql.size; omega) h2 Lt hLt
                            injection hq with q0 q1 q2 q3 q4 q5 q6 q7 q8 q9
                            subst q0 q1 q2 q3 q4 q5 q6 q7 q8 q9
                            clear HL2 HX HP HWb HQ HQ0 hLt
                            go_wp2_with fail
                            refine (HTr.out _ (HF2.out.below (((Below.refl _ _).alloc (Nat.le_refl _) _).alloc (by simp) _))).mono ?_
                            rintro e w4 ⟨rfl, hb4⟩
                            have hA : LexAt w4 w2.heap.size ⟨Lt.sql, sql.size, Lt.kind, Lt.n, Lt.prev, Lt.cr, Lt.be, Lt.depth, Lt.body, Lt.ended⟩ := ((alloc_lex w2 ⟨Lt.sql, sql.size, Lt.kind, Lt.n, Lt.prev, Lt.cr, Lt.be, Lt.depth, Lt.body, Lt.ended⟩ 25).below (by simp) ((Below.refl _ _).alloc (Nat.le_refl _) _)).below (by simp; omega) hb4
                            have hz4 : w2.heap.size < w4.heap.size := by have := hb4.size; simp at this; omega
                            have HB4 : Hid (Below w1.heap.size w1 w4) := ((HB2.out.alloc HB2.out.size _).alloc (by have := HB2.out.size; simp; omega) _).trans (hb4.mono (by have := HB2.out.size; simp; omega))
                            clear hb4 HTr HF2 HB2
                            obtain ⟨c0, c1, c2, c3, c4, c5, c6, c7, c8, c9, f⟩ := hA
                            simp only at c0 c1 c2 c3 c4 c5 c6 c7 c8 c9
                            clear f
                            go_wp2
                            go_ret
                            exact ⟨rfl, HB4.out.alloc HB4.out.size _⟩
                    · obtain rfl : p = sql.size := by omega
                      have hPp : sql.size = P := by rw [← HP.out]; exact (fp_end sql _).symm
                      subst hPp
                      have hq := HL2.out
                      rw [nxL, if_pos rfl] at hq
                      injection hq with q0 q1 q2 q3 q4 q5 q6 q7 q8 q9
                      subst q0 q1 q2 q3 q4 q5 q6 q7 q8 q9
                      have hx := HX.out
                      rw [nxW, if_pos rfl] at hx
                      subst hx
                      clear HL2 HX HP HWb HF2
                      go_wp2
                      go_ret
                      exact ⟨rfl, (HB2.out.alloc HB2.out.size _).alloc (by have := HB2.out.size; simp; omega) _⟩
                · have HN := mkHid (next_fresh_e sql i0 kind n prev cr be depth body w1 HF.out)
                  clear hP HJ HWb
                  go_wp2_with fail
                  refine (HN.out).mono ?_
                  rintro e w2 ⟨rfl, hb2⟩
                  have HB2 := mkHid hb2
                  clear HN hb2 HF
                  go_wp2
                  go_ret
                  exact ⟨rfl, (HB2.out.alloc HB2.out.size _).alloc (by have := HB2.out.size; simp; omega) _⟩
          · go_wp2
            all_goals (go_ret; exact ⟨rfl, Below.refl _ _⟩)
        · go_wp2
          all_goals (go_ret; exact ⟨rfl, Below.refl _ _⟩)
      · go_wp2
        all_goals (go_ret; exact ⟨rfl, Below.refl _ _⟩)
    · go_wp2
      all_goals (go_ret; exact ⟨rfl, Below.refl _ _⟩)
  · go_wp2
    all_goals (go_ret; exact ⟨rfl, Below.refl _ _⟩)
end Go.Proofs.Qxb6603871aDoor
