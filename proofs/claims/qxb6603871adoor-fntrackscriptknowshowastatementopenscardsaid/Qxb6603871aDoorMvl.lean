import Derived.Test.Qxb6603871aDoorBll
import Derived.Test.Qxb6603871aDoorKwd
import Derived.BigQuiet
set_option linter.unusedVariables false
set_option linter.unusedSimpArgs false
namespace Go.Proofs.Qxb6603871aDoor
open Go.RowKit Go.PlainAid

theorem trackF_cases (L : Lx) (x : ByteArray) :
    ((trackF L x).sql = L.sql ∧ (trackF L x).i = L.i ∧ (trackF L x).kind = L.kind ∧ (trackF L x).ended = L.ended ∧ (trackF L x).n = wrap64 (L.n + 1) ∧ (trackF L x).prev = x) ∧
    ((wrap64 (L.n + 1) = 1 ∧ (trackF L x).cr = kw x kCREATE ∧ (trackF L x).be = kw x kBEGIN ∧ (trackF L x).depth = L.depth ∧ (trackF L x).body = L.body) ∨
     (wrap64 (L.n + 1) ≠ 1 ∧ (trackF L x).cr = L.cr ∧ (trackF L x).be = L.be ∧
      (((trackF L x).depth = L.depth ∧ (trackF L x).body = L.body) ∨
       (L.kind = 2 ∧ L.cr = true ∧ (trackF L x).depth = wrap64 (L.depth + 1) ∧ (trackF L x).body = L.body) ∨
       (L.kind = 2 ∧ L.cr = true ∧ 0 < L.depth ∧ (trackF L x).depth = wrap64 (L.depth - 1) ∧ (trackF L x).body = L.body) ∨
       (L.kind = 3 ∧ L.cr = true ∧ wrap64 (L.n + 1) ≤ 8 ∧ L.body = false ∧ (trackF L x).body = true ∧ (trackF L x).depth = L.depth) ∨
       (L.kind = 3 ∧ L.cr = false ∧ L.be = true ∧ wrap64 (L.n + 1) = 2 ∧ (trackF L x).body = !L.body ∧ (trackF L x).depth = L.depth)))) := by
  unfold trackF
  simp only
  split
  · rename_i h
    exact ⟨⟨rfl, rfl, rfl, rfl, rfl, rfl⟩, .inl ⟨h, rfl, rfl, rfl, rfl⟩⟩
  · rename_i h
    split
    · rename_i h2
      split
      · exact ⟨⟨rfl, rfl, rfl, rfl, rfl, rfl⟩, .inr ⟨h, rfl, rfl, .inr (.inl ⟨h2.1, h2.2, rfl, rfl⟩)⟩⟩
      · split
        · rename_i h3
          simp only [Bool.and_eq_true, decide_eq_true_eq] at h3
          exact ⟨⟨rfl, rfl, rfl, rfl, rfl, rfl⟩, .inr ⟨h, rfl, rfl, .inr (.inr (.inl ⟨h2.1, h2.2, h3.1, rfl, rfl⟩))⟩⟩
        · exact ⟨⟨rfl, rfl, rfl, rfl, rfl, rfl⟩, .inr ⟨h, rfl, rfl, .inl ⟨rfl, rfl⟩⟩⟩
    · split
      · rename_i h3
        refine ⟨⟨rfl, rfl, rfl, rfl, rfl, rfl⟩, .inr ⟨h, rfl, rfl, ?_⟩⟩
        by_cases hb : L.body = true
        · exact .inl ⟨rfl, by simp only [hb, Bool.true_or]⟩
        · have hb : L.body = false := by simpa using hb
          by_cases hw : bodyW x = true
          · exact .inr (.inr (.inr (.inl ⟨h3.1, h3.2.1, h3.2.2, hb, by simp only [hw, Bool.or_true], rfl⟩)))
          · have hw : bodyW x = false := by simpa using hw
            exact .inl ⟨rfl, by simp only [hb, hw, Bool.or_false]⟩
      · rename_i h3
        split
        · rename_i h4
          refine ⟨⟨rfl, rfl, rfl, rfl, rfl, rfl⟩, .inr ⟨h, rfl, rfl, ?_⟩⟩
          by_cases hb : kw x kNOT = L.body
          · exact .inl ⟨rfl, hb⟩
          · have hc : L.cr = false := by
              cases hcr : L.cr
              · rfl
              · exact absurd ⟨h4.1, hcr, by omega⟩ h3
            refine .inr (.inr (.inr (.inr ⟨h4.1, hc, h4.2.1, h4.2.2, ?_, rfl⟩)))
            simp only
            revert hb
            cases kw x kNOT <;> cases L.body <;> simp
        · exact ⟨⟨rfl, rfl, rfl, rfl, rfl, rfl⟩, .inr ⟨h, rfl, rfl, .inl ⟨rfl, rfl⟩⟩⟩

/-- ZZTrack's contract, as law 6 asks for it. -/
def MvC (sql : ByteArray) (i kind n : Int) (prev : ByteArray) (cr be : Bool) (depth : Int) (body ended : Bool) (x : ByteArray) (c1 b1 : Bool) (d1 : Int) (o1 : Bool) : Prop :=
  ∀ w1, FoldTab w1 → Calls Tryd.prog 12 #[.string sql, .int .i64 i, .int .i32 kind, .int .i64 n, .string prev, .bool cr, .bool be, .int .i64 depth, .bool body, .bool ended, .string x] w1
      fun e w' => e = .returned (.agg #[.string sql, .int .i64 i, .int .i32 kind, .int .i64 (wrap64 (n + 1)), .string x, .bool c1, .bool b1, .int .i64 d1, .bool o1, .bool ended]) ∧ Below w1.heap.size w1 w'

set_option maxRecDepth 100000 in
set_option maxHeartbeats 4000000 in
theorem mv_one_tt (sql : ByteArray) (i kind n : Int) (prev : ByteArray) (cr be body ended : Bool) (depth : Int) (x : ByteArray) (w : World) (hF : FoldTab w)
    (hl : sql.size + prev.size + x.size ≤ 1048576) (h1 : wrap64 (n + 1) = 1) (hk1 : kw x kCREATE = true) (hk2 : kw x kBEGIN = true)
    (HC1 : Hid (MvC sql i kind n prev cr be depth body ended x true true depth body)) :
    Calls Tryd.prog 6 #[.string sql, .int .i64 i, .int .i32 kind, .int .i64 n, .string prev, .bool cr, .bool be, .int .i64 depth, .bool body, .bool ended, .string x] w fun e w' => e = .returned (.bool true) ∧ Below w.heap.size w w' := by
  have HF := mkHid hF
  clear hF
  have hp : prev.size ≤ 1048576 := by omega
  have hx : x.size ≤ 1048576 := by omega
  have t1 : (wrap64 (n + 1) == 1) = true := beq_iff_eq.2 h1
  have HK : Hid (∀ t w, kwOk t → Calls Tryd.prog 17 #[.string x, .string t] w fun e w' => e = .returned (.bool (kw x t)) ∧ Drw w w') := fun t w ht => kwd_any x t w hx ht _ rfl
  clear h1
  go_enter Tryd.func6, Tryd.ntmps6
  go_wp2_with (go_at_call 16; go_in)
  refine (HC1.out _ HF.out).mono ?_
  rintro e w2 ⟨rfl, hb2⟩
  have HB2 := mkHid (hb2.alloc hb2.size (.cells #[.string sql, .int .i64 i, .int .i32 kind, .int .i64 (wrap64 (n + 1)), .string x, .bool true, .bool true, .int .i64 depth, .bool body, .bool ended] 25))
  have hA := alloc_lex w2 ⟨sql, i, kind, wrap64 (n + 1), x, true, true, depth, body, ended⟩ 25
  clear hb2 HC1
  go_wp2_with fail
  generalize (World.alloc w2 _) = w3 at hA HB2 ⊢
  obtain ⟨d0, d1, d2, d3, d4, d5, d6, d7, d8, d9, df⟩ := hA
  have g1 : (true == kw x kCREATE) = true := by rw [hk1]; rfl
  have g2 : (true == kw x kBEGIN) = true := by rw [hk2]; rfl
  clear hl hp hx t1 HF
  go_quiet (first | (go_at_call 17; refine Calls.quiet_of (HK.out _ _ ?_); first | exact ok_CREATE | exact ok_BEGIN))
  go_wp2
  go_ret
  exact ⟨rfl, below_drewN HB2.out _⟩

set_option maxRecDepth 100000 in
set_option maxHeartbeats 4000000 in
theorem mv_one_tf (sql : ByteArray) (i kind n : Int) (prev : ByteArray) (cr be body ended : Bool) (depth : Int) (x : ByteArray) (w : World) (hF : FoldTab w)
    (hl : sql.size + prev.size + x.size ≤ 1048576) (h1 : wrap64 (n + 1) = 1) (hk1 : kw x kCREATE = true) (hk2 : kw x kBEGIN = false)
    (HC1 : Hid (MvC sql i kind n prev cr be depth body ended x true false depth body)) :
    Calls Tryd.prog 6 #[.string sql, .int .i64 i, .int .i32 kind, .int .i64 n, .string prev, .bool cr, .bool be, .int .i64 depth, .bool body, .bool ended, .string x] w fun e w' => e = .returned (.bool true) ∧ Below w.heap.size w w' := by
  have HF := mkHid hF
  clear hF
  have hp : prev.size ≤ 1048576 := by omega
  have hx : x.size ≤ 1048576 := by omega
  have t1 : (wrap64 (n + 1) == 1) = true := beq_iff_eq.2 h1
  have HK : Hid (∀ t w, kwOk t → Calls Tryd.prog 17 #[.string x, .string t] w fun e w' => e = .returned (.bool (kw x t)) ∧ Drw w w') := fun t w ht => kwd_any x t w hx ht _ rfl
  clear h1
  go_enter Tryd.func6, Tryd.ntmps6
  go_wp2_with (go_at_call 16; go_in)
  refine (HC1.out _ HF.out).mono ?_
  rintro e w2 ⟨rfl, hb2⟩
  have HB2 := mkHid (hb2.alloc hb2.size (.cells #[.string sql, .int .i64 i, .int .i32 kind, .int .i64 (wrap64 (n + 1)), .string x, .bool true, .bool false, .int .i64 depth, .bool body, .bool ended] 25))
  have hA := alloc_lex w2 ⟨sql, i, kind, wrap64 (n + 1), x, true, false, depth, body, ended⟩ 25
  clear hb2 HC1
  go_wp2_with fail
  generalize (World.alloc w2 _) = w3 at hA HB2 ⊢
  obtain ⟨d0, d1, d2, d3, d4, d5, d6, d7, d8, d9, df⟩ := hA
  have g1 : (true == kw x kCREATE) = true := by rw [hk1]; rfl
  have g2 : (false == kw x kBEGIN) = true := by rw [hk2]; rfl
  clear hl hp hx t1 HF
  go_quiet (first | (go_at_call 17; refine Calls.quiet_of (HK.out _ _ ?_); first | exact ok_CREATE | exact ok_BEGIN))
  go_wp2
  go_ret
  exact ⟨rfl, below_drewN HB2.out _⟩

set_option maxRecDepth 100000 in
set_option maxHeartbeats 4000000 in
theorem mv_one_ft (sql : ByteArray) (i kind n : Int) (prev : ByteArray) (cr be body ended : Bool) (depth : Int) (x : ByteArray) (w : World) (hF : FoldTab w)
    (hl : sql.size + prev.size + x.size ≤ 1048576) (h1 : wrap64 (n + 1) = 1) (hk1 : kw x kCREATE = false) (hk2 : kw x kBEGIN = true)
    (HC1 : Hid (MvC sql i kind n prev cr be depth body ended x false true depth body)) :
    Calls Tryd.prog 6 #[.string sql, .int .i64 i, .int .i32 kind, .int .i64 n, .string prev, .bool cr, .bool be, .int .i64 depth, .bool body, .bool ended, .string x] w fun e w' => e = .returned (.bool true) ∧ Below w.heap.size w w' := by
  have HF := mkHid hF
  clear hF
  have hp : prev.size ≤ 1048576 := by omega
  have hx : x.size ≤ 1048576 := by omega
  have t1 : (wrap64 (n + 1) == 1) = true := beq_iff_eq.2 h1
  have HK : Hid (∀ t w, kwOk t → Calls Tryd.prog 17 #[.string x, .string t] w fun e w' => e = .returned (.bool (kw x t)) ∧ Drw w w') := fun t w ht => kwd_any x t w hx ht _ rfl
  clear h1
  go_enter Tryd.func6, Tryd.ntmps6
  go_wp2_with (go_at_call 16; go_in)
  refine (HC1.out _ HF.out).mono ?_
  rintro e w2 ⟨rfl, hb2⟩
  have HB2 := mkHid (hb2.alloc hb2.size (.cells #[.string sql, .int .i64 i, .int .i32 kind, .int .i64 (wrap64 (n + 1)), .string x, .bool false, .bool true, .int .i64 depth, .bool body, .bool ended] 25))
  have hA := alloc_lex w2 ⟨sql, i, kind, wrap64 (n + 1), x, false, true, depth, body, ended⟩ 25
  clear hb2 HC1
  go_wp2_with fail
  generalize (World.alloc w2 _) = w3 at hA HB2 ⊢
  obtain ⟨d0, d1, d2, d3, d4, d5, d6, d7, d8, d9, df⟩ := hA
  have g1 : (false == kw x kCREATE) = true := by rw [hk1]; rfl
  have g2 : (true == kw x kBEGIN) = true := by rw [hk2]; rfl
  clear hl hp hx t1 HF
  go_quiet (first | (go_at_call 17; refine Calls.quiet_of (HK.out _ _ ?_); first | exact ok_CREATE | exact ok_BEGIN))
  go_wp2
  go_ret
  exact ⟨rfl, below_drewN HB2.out _⟩

set_option maxRecDepth 100000 in
set_option maxHeartbeats 4000000 in
theorem mv_one_ff (sql : ByteArray) (i kind n : Int) (prev : ByteArray) (cr be body ended : Bool) (depth : Int) (x : ByteArray) (w : World) (hF : FoldTab w)
    (hl : sql.size + prev.size + x.size ≤ 1048576) (h1 : wrap64 (n + 1) = 1) (hk1 : kw x kCREATE = false) (hk2 : kw x kBEGIN = false)
    (HC1 : Hid (MvC sql i kind n prev cr be depth body ended x false false depth body)) :
    Calls Tryd.prog 6 #[.string sql, .int .i64 i, .int .i32 kind, .int .i64 n, .string prev, .bool cr, .bool be, .int .i64 depth, .bool body, .bool ended, .string x] w fun e w' => e = .returned (.bool true) ∧ Below w.heap.size w w' := by
  have HF := mkHid hF
  clear hF
  have hp : prev.size ≤ 1048576 := by omega
  have hx : x.size ≤ 1048576 := by omega
  have t1 : (wrap64 (n + 1) == 1) = true := beq_iff_eq.2 h1
  have HK : Hid (∀ t w, kwOk t → Calls Tryd.prog 17 #[.string x, .string t] w fun e w' => e = .returned (.bool (kw x t)) ∧ Drw w w') := fun t w ht => kwd_any x t w hx ht _ rfl
  clear h1
  go_enter Tryd.func6, Tryd.ntmps6
  go_wp2_with (go_at_call 16; go_in)
  refine (HC1.out _ HF.out).mono ?_
  rintro e w2 ⟨rfl, hb2⟩
  have HB2 := mkHid (hb2.alloc hb2.size (.cells #[.string sql, .int .i64 i, .int .i32 kind, .int .i64 (wrap64 (n + 1)), .string x, .bool false, .bool false, .int .i64 depth, .bool body, .bool ended] 25))
  have hA := alloc_lex w2 ⟨sql, i, kind, wrap64 (n + 1), x, false, false, depth, body, ended⟩ 25
  clear hb2 HC1
  go_wp2_with fail
  generalize (World.alloc w2 _) = w3 at hA HB2 ⊢
  obtain ⟨d0, d1, d2, d3, d4, d5, d6, d7, d8, d9, df⟩ := hA
  have g1 : (false == kw x kCREATE) = true := by rw [hk1]; rfl
  have g2 : (false == kw x kBEGIN) = true := by rw [hk2]; rfl
  clear hl hp hx t1 HF
  go_quiet (first | (go_at_call 17; refine Calls.quiet_of (HK.out _ _ ?_); first | exact ok_CREATE | exact ok_BEGIN))
  go_wp2
  go_ret
  exact ⟨rfl, below_drewN HB2.out _⟩

set_option maxRecDepth 100000 in
set_option maxHeartbeats 4000000 in
theorem mv_same (sql : ByteArray) (i kind n : Int) (prev : ByteArray) (cr be body ended : Bool) (depth : Int) (x : ByteArray) (w : World) (hF : FoldTab w)
    (hl : sql.size + prev.size + x.size ≤ 1048576) (h1 : wrap64 (n + 1) ≠ 1)
    (HC1 : Hid (MvC sql i kind n prev cr be depth body ended x cr be depth body)) :
    Calls Tryd.prog 6 #[.string sql, .int .i64 i, .int .i32 kind, .int .i64 n, .string prev, .bool cr, .bool be, .int .i64 depth, .bool body, .bool ended, .string x] w fun e w' => e = .returned (.bool true) ∧ Below w.heap.size w w' := by
  have HF := mkHid hF
  clear hF
  have hp : prev.size ≤ 1048576 := by omega
  have hx : x.size ≤ 1048576 := by omega
  have t1 : (wrap64 (n + 1) == 1) = false := beq_eq_false_iff_ne.2 h1
  clear h1
  go_enter Tryd.func6, Tryd.ntmps6
  go_wp2_with (go_at_call 16; go_in)
  refine (HC1.out _ HF.out).mono ?_
  rintro e w2 ⟨rfl, hb2⟩
  have HB2 := mkHid (hb2.alloc hb2.size (.cells #[.string sql, .int .i64 i, .int .i32 kind, .int .i64 (wrap64 (n + 1)), .string x, .bool cr, .bool be, .int .i64 depth, .bool body, .bool ended] 25))
  have hA := alloc_lex w2 ⟨sql, i, kind, wrap64 (n + 1), x, cr, be, depth, body, ended⟩ 25
  clear hb2 HC1
  go_wp2_with fail
  all_goals (go_ret; exact ⟨rfl, HB2.out⟩)

set_option maxRecDepth 100000 in
set_option maxHeartbeats 4000000 in
theorem mv_up (sql : ByteArray) (i  n : Int) (prev : ByteArray) (be body ended : Bool) (depth : Int) (x : ByteArray) (w : World) (hF : FoldTab w)
    (hl : sql.size + prev.size + x.size ≤ 1048576) (h1 : wrap64 (n + 1) ≠ 1) (h2 : wrap64 (depth + 1) ≠ depth)
    (HC1 : Hid (MvC sql i 2 n prev true be depth body ended x true be (wrap64 (depth + 1)) body)) :
    Calls Tryd.prog 6 #[.string sql, .int .i64 i, .int .i32 2, .int .i64 n, .string prev, .bool true, .bool be, .int .i64 depth, .bool body, .bool ended, .string x] w fun e w' => e = .returned (.bool true) ∧ Below w.heap.size w w' := by
  have HF := mkHid hF
  clear hF
  have hp : prev.size ≤ 1048576 := by omega
  have hx : x.size ≤ 1048576 := by omega
  have t1 : (wrap64 (n + 1) == 1) = false := beq_eq_false_iff_ne.2 h1
  have t2 : (wrap64 (depth + 1) == depth) = false := beq_eq_false_iff_ne.2 h2
  clear h1 h2
  go_enter Tryd.func6, Tryd.ntmps6
  go_wp2_with (go_at_call 16; go_in)
  refine (HC1.out _ HF.out).mono ?_
  rintro e w2 ⟨rfl, hb2⟩
  have HB2 := mkHid (hb2.alloc hb2.size (.cells #[.string sql, .int .i64 i, .int .i32 2, .int .i64 (wrap64 (n + 1)), .string x, .bool true, .bool be, .int .i64 (wrap64 (depth + 1)), .bool body, .bool ended] 25))
  have hA := alloc_lex w2 ⟨sql, i, 2, wrap64 (n + 1), x, true, be, (wrap64 (depth + 1)), body, ended⟩ 25
  clear hb2 HC1
  go_wp2_with fail
  all_goals (go_ret; exact ⟨rfl, HB2.out⟩)

set_option maxRecDepth 100000 in
set_option maxHeartbeats 4000000 in
theorem mv_down (sql : ByteArray) (i  n : Int) (prev : ByteArray) (be body ended : Bool) (depth : Int) (x : ByteArray) (w : World) (hF : FoldTab w)
    (hl : sql.size + prev.size + x.size ≤ 1048576) (h1 : wrap64 (n + 1) ≠ 1) (h2 : wrap64 (depth - 1) ≠ depth) (h3 : 0 < depth) (h4 : wrap64 (depth - 1) ≠ wrap64 (depth + 1))
    (HC1 : Hid (MvC sql i 2 n prev true be depth body ended x true be (wrap64 (depth - 1)) body)) :
    Calls Tryd.prog 6 #[.string sql, .int .i64 i, .int .i32 2, .int .i64 n, .string prev, .bool true, .bool be, .int .i64 depth, .bool body, .bool ended, .string x] w fun e w' => e = .returned (.bool true) ∧ Below w.heap.size w w' := by
  have HF := mkHid hF
  clear hF
  have hp : prev.size ≤ 1048576 := by omega
  have hx : x.size ≤ 1048576 := by omega
  have t1 : (wrap64 (n + 1) == 1) = false := beq_eq_false_iff_ne.2 h1
  have t4 : (wrap64 (depth - 1) == wrap64 (depth + 1)) = false := beq_eq_false_iff_ne.2 h4
  have t2 : (wrap64 (depth - 1) == depth) = false := beq_eq_false_iff_ne.2 h2
  clear h1 h2
  go_enter Tryd.func6, Tryd.ntmps6
  go_wp2_with (go_at_call 16; go_in)
  refine (HC1.out _ HF.out).mono ?_
  rintro e w2 ⟨rfl, hb2⟩
  have HB2 := mkHid (hb2.alloc hb2.size (.cells #[.string sql, .int .i64 i, .int .i32 2, .int .i64 (wrap64 (n + 1)), .string x, .bool true, .bool be, .int .i64 (wrap64 (depth - 1)), .bool body, .bool ended] 25))
  have hA := alloc_lex w2 ⟨sql, i, 2, wrap64 (n + 1), x, true, be, (wrap64 (depth - 1)), body, ended⟩ 25
  clear hb2 HC1
  go_wp2_with fail
  all_goals first | (go_ret; exact ⟨rfl, HB2.out⟩) | exact absurd (by assumption) h4

set_option maxRecDepth 100000 in
set_option maxHeartbeats 4000000 in
theorem mv_body (sql : ByteArray) (i  n : Int) (prev : ByteArray) (be ended : Bool) (depth : Int) (x : ByteArray) (w : World) (hF : FoldTab w)
    (hl : sql.size + prev.size + x.size ≤ 1048576) (h1 : wrap64 (n + 1) ≠ 1) (h2 : wrap64 (n + 1) ≤ 8)
    (HC1 : Hid (MvC sql i 3 n prev true be depth false ended x true be depth true)) :
    Calls Tryd.prog 6 #[.string sql, .int .i64 i, .int .i32 3, .int .i64 n, .string prev, .bool true, .bool be, .int .i64 depth, .bool false, .bool ended, .string x] w fun e w' => e = .returned (.bool true) ∧ Below w.heap.size w w' := by
  have HF := mkHid hF
  clear hF
  have hp : prev.size ≤ 1048576 := by omega
  have hx : x.size ≤ 1048576 := by omega
  have t1 : (wrap64 (n + 1) == 1) = false := beq_eq_false_iff_ne.2 h1
  clear h1
  go_enter Tryd.func6, Tryd.ntmps6
  go_wp2_with (go_at_call 16; go_in)
  refine (HC1.out _ HF.out).mono ?_
  rintro e w2 ⟨rfl, hb2⟩
  have HB2 := mkHid (hb2.alloc hb2.size (.cells #[.string sql, .int .i64 i, .int .i32 3, .int .i64 (wrap64 (n + 1)), .string x, .bool true, .bool be, .int .i64 depth, .bool true, .bool ended] 25))
  have hA := alloc_lex w2 ⟨sql, i, 3, wrap64 (n + 1), x, true, be, depth, true, ended⟩ 25
  clear hb2 HC1
  go_wp2_with fail
  all_goals (go_ret; exact ⟨rfl, HB2.out⟩)

set_option maxRecDepth 100000 in
set_option maxHeartbeats 4000000 in
theorem mv_not_true (sql : ByteArray) (i  n : Int) (prev : ByteArray) (ended : Bool) (depth : Int) (x : ByteArray) (w : World) (hF : FoldTab w)
    (hl : sql.size + prev.size + x.size ≤ 1048576) (h2 : wrap64 (n + 1) = 2)
    (HC1 : Hid (MvC sql i 3 n prev false true depth true ended x false true depth false)) :
    Calls Tryd.prog 6 #[.string sql, .int .i64 i, .int .i32 3, .int .i64 n, .string prev, .bool false, .bool true, .int .i64 depth, .bool true, .bool ended, .string x] w fun e w' => e = .returned (.bool true) ∧ Below w.heap.size w w' := by
  have HF := mkHid hF
  clear hF
  have hp : prev.size ≤ 1048576 := by omega
  have hx : x.size ≤ 1048576 := by omega
  have t1 : (wrap64 (n + 1) == 1) = false := beq_eq_false_iff_ne.2 (by omega)
  have t2 : (wrap64 (n + 1) == 2) = true := beq_iff_eq.2 h2
  have t3 : wrap64 (n + 1) ≤ 8 := by omega
  clear h2
  go_enter Tryd.func6, Tryd.ntmps6
  go_wp2_with (go_at_call 16; go_in)
  refine (HC1.out _ HF.out).mono ?_
  rintro e w2 ⟨rfl, hb2⟩
  have HB2 := mkHid (hb2.alloc hb2.size (.cells #[.string sql, .int .i64 i, .int .i32 3, .int .i64 (wrap64 (n + 1)), .string x, .bool false, .bool true, .int .i64 depth, .bool false, .bool ended] 25))
  have hA := alloc_lex w2 ⟨sql, i, 3, wrap64 (n + 1), x, false, true, depth, false, ended⟩ 25
  clear hb2 HC1
  go_wp2_with fail
  all_goals (go_ret; exact ⟨rfl, HB2.out⟩)

set_option maxRecDepth 100000 in
set_option maxHeartbeats 4000000 in
theorem mv_not_false (sql : ByteArray) (i  n : Int) (prev : ByteArray) (ended : Bool) (depth : Int) (x : ByteArray) (w : World) (hF : FoldTab w)
    (hl : sql.size + prev.size + x.size ≤ 1048576) (h2 : wrap64 (n + 1) = 2)
    (HC1 : Hid (MvC sql i 3 n prev false true depth false ended x false true depth true)) :
    Calls Tryd.prog 6 #[.string sql, .int .i64 i, .int .i32 3, .int .i64 n, .string prev, .bool false, .bool true, .int .i64 depth, .bool false, .bool ended, .string x] w fun e w' => e = .returned (.bool true) ∧ Below w.heap.size w w' := by
  have HF := mkHid hF
  clear hF
  have hp : prev.size ≤ 1048576 := by omega
  have hx : x.size ≤ 1048576 := by omega
  have t1 : (wrap64 (n + 1) == 1) = false := beq_eq_false_iff_ne.2 (by omega)
  have t2 : (wrap64 (n + 1) == 2) = true := beq_iff_eq.2 h2
  have t3 : wrap64 (n + 1) ≤ 8 := by omega
  clear h2
  go_enter Tryd.func6, Tryd.ntmps6
  go_wp2_with (go_at_call 16; go_in)
  refine (HC1.out _ HF.out).mono ?_
  rintro e w2 ⟨rfl, hb2⟩
  have HB2 := mkHid (hb2.alloc hb2.size (.cells #[.string sql, .int .i64 i, .int .i32 3, .int .i64 (wrap64 (n + 1)), .string x, .bool false, .bool true, .int .i64 depth, .bool true, .bool ended] 25))
  have hA := alloc_lex w2 ⟨sql, i, 3, wrap64 (n + 1), x, false, true, depth, true, ended⟩ 25
  clear hb2 HC1
  go_wp2_with fail
  all_goals (go_ret; exact ⟨rfl, HB2.out⟩)

set_option maxRecDepth 100000 in
set_option maxHeartbeats 1000000 in
theorem mv_long (sql : ByteArray) (i kind n : Int) (prev : ByteArray) (cr be : Bool) (depth : Int) (body ended : Bool) (x : ByteArray) (w : World) (z0 : sql.size ≤ 140737488351232) (z4 : prev.size ≤ 140737488351232) (z10 : x.size ≤ 140737488351232)
    (hl : ¬ (sql.size + prev.size + x.size ≤ 1048576)) :
    Calls Tryd.prog 6 #[.string sql, .int .i64 i, .int .i32 kind, .int .i64 n, .string prev, .bool cr, .bool be, .int .i64 depth, .bool body, .bool ended, .string x] w fun e w' => e = .returned (.bool true) ∧ Below w.heap.size w w' := by
  go_enter Tryd.func6, Tryd.ntmps6
  go_wp2
  all_goals (go_ret; exact ⟨rfl, Below.refl _ _⟩)

theorem mv_any (sql : ByteArray) (i kind n : Int) (prev : ByteArray) (cr be : Bool) (depth : Int) (body ended : Bool) (x : ByteArray) (w : World) (hF : FoldTab w) (z0 : sql.size ≤ 140737488351232) (z4 : prev.size ≤ 140737488351232) (z10 : x.size ≤ 140737488351232) :
    Calls Tryd.prog 6 #[.string sql, .int .i64 i, .int .i32 kind, .int .i64 n, .string prev, .bool cr, .bool be, .int .i64 depth, .bool body, .bool ended, .string x] w fun e w' => e = .returned (.bool true) ∧ Below w.heap.size w w' := by
  by_cases hl : sql.size + prev.size + x.size ≤ 1048576
  · have hp : prev.size ≤ 1048576 := by omega
    have hx : x.size ≤ 1048576 := by omega
    obtain ⟨⟨e1, e2, e3, e4, e5, e6⟩, hc⟩ := trackF_cases ⟨sql, i, kind, n, prev, cr, be, depth, body, ended⟩ x
    have HC : MvC sql i kind n prev cr be depth body ended x (trackF ⟨sql, i, kind, n, prev, cr, be, depth, body, ended⟩ x).cr (trackF ⟨sql, i, kind, n, prev, cr, be, depth, body, ended⟩ x).be (trackF ⟨sql, i, kind, n, prev, cr, be, depth, body, ended⟩ x).depth (trackF ⟨sql, i, kind, n, prev, cr, be, depth, body, ended⟩ x).body := by
      intro w1 h1
      have := zztrack_any ⟨sql, i, kind, n, prev, cr, be, depth, body, ended⟩ x w1 h1 hx hp _ rfl
      rw [e1, e2, e3, e4, e5, e6] at this
      exact this
    generalize trackF ⟨sql, i, kind, n, prev, cr, be, depth, body, ended⟩ x = L1 at hc HC
    clear e1 e2 e3 e4 e5 e6
    obtain ⟨s1, i1, k1, n1, p1, c1, b1, d1, o1, en1⟩ := L1
    simp only at hc HC
    rcases hc with ⟨h1, h2, h3, rfl, rfl⟩ | ⟨h1, rfl, rfl, ⟨rfl, rfl⟩ | ⟨rfl, rfl, h2, rfl⟩ | ⟨rfl, rfl, h3, h2, rfl⟩ | ⟨rfl, rfl, h2, rfl, rfl, rfl⟩ | ⟨rfl, rfl, rfl, h2, h3, rfl⟩⟩
    · cases c1 <;> cases b1
      · exact mv_one_ff sql i kind n prev cr be _ ended _ x w hF hl h1 h2.symm h3.symm HC
      · exact mv_one_ft sql i kind n prev cr be _ ended _ x w hF hl h1 h2.symm h3.symm HC
      · exact mv_one_tf sql i kind n prev cr be _ ended _ x w hF hl h1 h2.symm h3.symm HC
      · exact mv_one_tt sql i kind n prev cr be _ ended _ x w hF hl h1 h2.symm h3.symm HC
    · exact mv_same sql i kind n prev _ _ _ ended _ x w hF hl h1 HC
    · subst h2
      by_cases hd : wrap64 (depth + 1) = depth
      · rw [hd] at HC
        exact mv_same sql i 2 n prev true _ _ ended _ x w hF hl h1 HC
      · exact mv_up sql i n prev _ _ ended _ x w hF hl h1 hd HC
    · subst h2
      by_cases hd : wrap64 (depth - 1) = depth
      · rw [hd] at HC
        exact mv_same sql i 2 n prev true _ _ ended _ x w hF hl h1 HC
      · by_cases h4 : wrap64 (depth - 1) = wrap64 (depth + 1)
        · rw [h4] at HC hd
          exact mv_up sql i n prev _ _ ended _ x w hF hl h1 hd HC
        · exact mv_down sql i n prev _ _ ended _ x w hF hl h1 hd h3 h4 HC
    · exact mv_body sql i n prev _ ended _ x w hF hl h1 h2 HC
    · subst h3
      cases body
      · exact mv_not_false sql i n prev ended _ x w hF hl h2 HC
      · exact mv_not_true sql i n prev ended _ x w hF hl h2 HC
  · exact mv_long sql i kind n prev cr be depth body ended x w z0 z4 z10 hl
end Go.Proofs.Qxb6603871aDoor
