import Derived.Test.Qxb6603871aDoorZzt
import Derived.Test.Qxb6603871aDoorSwp
import Derived.Laws.StructEq
set_option linter.unusedVariables false
set_option linter.unusedSimpArgs false
namespace Go.Proofs.Qxb6603871aDoor
open Go.RowKit Go.PlainAid

theorem alloc_lex (w : World) (L : Lx) (t : TypeId) : LexAt (w.alloc (.cells #[.string L.sql, .int .i64 L.i, .int .i32 L.kind, .int .i64 L.n, .string L.prev, .bool L.cr, .bool L.be, .int .i64 L.depth, .bool L.body, .bool L.ended] t)) w.heap.size L := by
  refine ⟨?_, ?_, ?_, ?_, ?_, ?_, ?_, ?_, ?_, ?_, ?_⟩
  · rw [World.cell?_alloc_at _ _ _ _ rfl]; rfl
  · rw [World.cell?_alloc_at _ _ _ _ rfl]; rfl
  · rw [World.cell?_alloc_at _ _ _ _ rfl]; rfl
  · rw [World.cell?_alloc_at _ _ _ _ rfl]; rfl
  · rw [World.cell?_alloc_at _ _ _ _ rfl]; rfl
  · rw [World.cell?_alloc_at _ _ _ _ rfl]; rfl
  · rw [World.cell?_alloc_at _ _ _ _ rfl]; rfl
  · rw [World.cell?_alloc_at _ _ _ _ rfl]; rfl
  · rw [World.cell?_alloc_at _ _ _ _ rfl]; rfl
  · rw [World.cell?_alloc_at _ _ _ _ rfl]; rfl
  · intro k; rw [World.frozen?_alloc_at _ _ _ _ rfl]

set_option maxRecDepth 100000 in
set_option maxHeartbeats 1000000 in
theorem bl_long (sql : ByteArray) (i kind n : Int) (prev : ByteArray) (cr be : Bool) (depth : Int) (body ended : Bool) (x : ByteArray) (w : World) (z0 : sql.size ≤ 140737488351232) (z4 : prev.size ≤ 140737488351232) (z10 : x.size ≤ 140737488351232)
    (hl : ¬ (sql.size + prev.size + x.size ≤ 1048576)) :
    Calls Tryd.prog 5 #[.string sql, .int .i64 i, .int .i32 kind, .int .i64 n, .string prev, .bool cr, .bool be, .int .i64 depth, .bool body, .bool ended, .string x] w fun e w' => e = .returned (.bool true) ∧ Below w.heap.size w w' := by
  go_enter Tryd.func5, Tryd.ntmps5
  go_wp2
  all_goals (go_ret; exact ⟨rfl, Below.refl _ _⟩)

set_option maxRecDepth 100000 in
set_option maxHeartbeats 4000000 in
theorem bl_short (sql : ByteArray) (i kind n : Int) (prev : ByteArray) (cr be : Bool) (depth : Int) (body ended : Bool) (x : ByteArray) (w : World) (hF : FoldTab w)
    (hl : sql.size + prev.size + x.size ≤ 1048576) :
    Calls Tryd.prog 5 #[.string sql, .int .i64 i, .int .i32 kind, .int .i64 n, .string prev, .bool cr, .bool be, .int .i64 depth, .bool body, .bool ended, .string x] w fun e w' => e = .returned (.bool true) ∧ Below w.heap.size w w' := by
  have HF := mkHid hF
  clear hF
  have hp : prev.size ≤ 1048576 := by omega
  have hx : x.size ≤ 1048576 := by omega
  go_enter Tryd.func5, Tryd.ntmps5
  go_wp2_with (go_at_call 14; go_in)
  refine (swap_any x w hx).mono ?_
  rintro e w1 ⟨⟨v, rfl, hv⟩, hb1⟩
  have HV := mkHid hv
  have hvs : v.size ≤ 1048576 := by rw [hv.1]; exact hx
  have HF1 := mkHid (HF.out.below hb1)
  clear hv
  obtain ⟨L1, hL1⟩ : ∃ L1, trackF ⟨sql, i, kind, n, prev, cr, be, depth, body, ended⟩ x = L1 := ⟨_, rfl⟩
  have hL2 : trackF ⟨sql, i, kind, n, prev, cr, be, depth, body, ended⟩ v = { L1 with prev := v } := by rw [trackF_swap HV.out, hL1]
  have hpx : L1.prev = x := by rw [← hL1]; exact trackF_prev _ _
  have HC1 : Hid (Calls Tryd.prog 12 #[.string sql, .int .i64 i, .int .i32 kind, .int .i64 n, .string prev, .bool cr, .bool be, .int .i64 depth, .bool body, .bool ended, .string x] w1
      fun e w' => e = .returned (.agg #[.string L1.sql, .int .i64 L1.i, .int .i32 L1.kind, .int .i64 L1.n, .string x, .bool L1.cr, .bool L1.be, .int .i64 L1.depth, .bool L1.body, .bool L1.ended]) ∧ Below w1.heap.size w1 w') := by
    have := zztrack_any ⟨sql, i, kind, n, prev, cr, be, depth, body, ended⟩ x w1 HF1.out hx hp L1 hL1
    rw [hpx] at this
    exact this
  have HC2 : Hid (∀ w4, FoldTab w4 → Calls Tryd.prog 12 #[.string sql, .int .i64 i, .int .i32 kind, .int .i64 n, .string prev, .bool cr, .bool be, .int .i64 depth, .bool body, .bool ended, .string v] w4
      fun e w' => e = .returned (.agg #[.string L1.sql, .int .i64 L1.i, .int .i32 L1.kind, .int .i64 L1.n, .string v, .bool L1.cr, .bool L1.be, .int .i64 L1.depth, .bool L1.body, .bool L1.ended]) ∧ Below w4.heap.size w4 w') := fun w4 h4 =>
    zztrack_any ⟨sql, i, kind, n, prev, cr, be, depth, body, ended⟩ v w4 h4 hvs hp _ hL2
  clear hL1 hL2 hpx
  go_wp2_with fail
  refine (HC1.out).mono ?_
  rintro e w2 ⟨rfl, hb2⟩
  have HB2 := mkHid (hb1.trans (hb2.mono hb1.size))
  have HF2 := mkHid (HF1.out.below hb2)
  clear hb1 hb2 HC1
  go_wp2_with fail
  refine (HC2.out _ (HF2.out.below ((Below.refl _ _).alloc (Nat.le_refl _) _))).mono ?_
  rintro e w3 ⟨rfl, hb3⟩
  have hA3 : LexAt w3 w2.heap.size { L1 with prev := x } := (alloc_lex w2 { L1 with prev := x } 25).below (by simp) hb3
  have h23 : Below w2.heap.size w2 w3 := ((Below.refl _ _).alloc (Nat.le_refl _) _).trans (hb3.mono (by simp))
  have hz3 : w2.heap.size < w3.heap.size := by have := hb3.size; simp at this; omega
  have HB3 := mkHid (HB2.out.trans (h23.mono HB2.out.size))
  clear hb3 h23 HC2
  obtain ⟨c0, c1, c2, c3, c4, c5, c6, c7, c8, c9, f⟩ := hA3
  go_wp2
  go_ret
  exact ⟨rfl, HB3.out.alloc HB3.out.size _⟩

theorem bl_any (sql : ByteArray) (i kind n : Int) (prev : ByteArray) (cr be : Bool) (depth : Int) (body ended : Bool) (x : ByteArray) (w : World) (hF : FoldTab w) (z0 : sql.size ≤ 140737488351232) (z4 : prev.size ≤ 140737488351232) (z10 : x.size ≤ 140737488351232) :
    Calls Tryd.prog 5 #[.string sql, .int .i64 i, .int .i32 kind, .int .i64 n, .string prev, .bool cr, .bool be, .int .i64 depth, .bool body, .bool ended, .string x] w fun e w' => e = .returned (.bool true) ∧ Below w.heap.size w w' := by
  by_cases h : sql.size + prev.size + x.size ≤ 1048576
  · exact bl_short sql i kind n prev cr be depth body ended x w hF h
  · exact bl_long sql i kind n prev cr be depth body ended x w z0 z4 z10 h
end Go.Proofs.Qxb6603871aDoor
