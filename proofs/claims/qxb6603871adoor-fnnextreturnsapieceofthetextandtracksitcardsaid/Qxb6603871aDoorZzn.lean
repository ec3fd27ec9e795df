import Derived.Test.Qxb6603871aDoorZzt
set_option linter.unusedVariables false
set_option linter.unusedSimpArgs false
namespace Go.Proofs.Qxb6603871aDoor
open Go.RowKit Go.PlainAid

set_option maxRecDepth 100000 in
set_option maxHeartbeats 4000000 in
/-- ZZNext hands on what next does. -/
theorem zznext_of (L : Lx) (w : World) (Q : ByteArray → Lx → Prop)
    (hN : Calls Tryd.prog 21 #[.pointer (some ⟨w.heap.size + 1, 0, none⟩)] (zzW w L) fun e w' => ∃ x L', e = .returned (.string x) ∧ Q x L' ∧ LexAt w' (w.heap.size + 1) L' ∧ Tk w (zzW w L) (w.heap.size + 1) w') :
    Calls Tryd.prog 10 #[.string L.sql, .int .i64 L.i, .int .i32 L.kind, .int .i64 L.n, .string L.prev, .bool L.cr, .bool L.be, .int .i64 L.depth, .bool L.body, .bool L.ended] w
      fun e w' => ∃ x L', Q x L' ∧ e = .returned (.tuple #[.string x, .agg #[.string L'.sql, .int .i64 L'.i, .int .i32 L'.kind, .int .i64 L'.n, .string L'.prev, .bool L'.cr, .bool L'.be, .int .i64 L'.depth, .bool L'.body, .bool L'.ended]]) ∧ Below w.heap.size w w' := by
  have HC := mkHid hN
  clear hN
  go_enter Tryd.func10, Tryd.ntmps10
  go_wp2_with (go_at_call 20; go_in)
  refine (HC.out).mono ?_
  rintro e w2 ⟨x, L', rfl, hQ, hL2, hT2⟩
  have HQ := mkHid hQ
  clear hQ
  have hR2 : LexAt w2 w.heap.size Lx.zero := (zzW_res w L).gb hT2.gb (by rw [zzW_size]; omega) (by omega)
  have hz2 : w.heap.size + 2 ≤ w2.heap.size := by have := hT2.gb.size; rw [zzW_size] at this; exact this
  have hB2 := hT2.bel
  clear hT2 HC
  go_wp2_with fail
  refine (state_any L' (w.heap.size + 1) _ hL2 (by omega)).mono ?_
  rintro e w3 ⟨rfl, hb3⟩
  have hR3 := hR2.below (by omega) hb3
  have hB3 : Below w.heap.size w w3 := hB2.trans (hb3.mono (by omega))
  clear hL2 hR2 hb3 hB2
  have hL4 := (((((((((hR3.set0 L'.sql).set1 L'.i).set2 L'.kind).set3 L'.n).set4 L'.prev).set5 L'.cr).set6 L'.be).set7 L'.depth).set8 L'.body).set9 L'.ended
  have hB4 := (((((((((hB3.setCell (p := ⟨w.heap.size, 0, none⟩) (Nat.le_refl _) (.string L'.sql)).setCell (p := ⟨w.heap.size, 1, none⟩) (Nat.le_refl _) (.int .i64 L'.i)).setCell (p := ⟨w.heap.size, 2, none⟩) (Nat.le_refl _) (.int .i32 L'.kind)).setCell (p := ⟨w.heap.size, 3, none⟩) (Nat.le_refl _) (.int .i64 L'.n)).setCell (p := ⟨w.heap.size, 4, none⟩) (Nat.le_refl _) (.string L'.prev)).setCell (p := ⟨w.heap.size, 5, none⟩) (Nat.le_refl _) (.bool L'.cr)).setCell (p := ⟨w.heap.size, 6, none⟩) (Nat.le_refl _) (.bool L'.be)).setCell (p := ⟨w.heap.size, 7, none⟩) (Nat.le_refl _) (.int .i64 L'.depth)).setCell (p := ⟨w.heap.size, 8, none⟩) (Nat.le_refl _) (.bool L'.body)).setCell (p := ⟨w.heap.size, 9, none⟩) (Nat.le_refl _) (.bool L'.ended)
  have H4 := mkHid (And.intro hL4 hB4)
  clear hL4 hB4
  obtain ⟨c0, c1, c2, c3, c4, c5, c6, c7, c8, c9, f⟩ := hR3
  go_wp2
  obtain ⟨hL4, hB4⟩ := H4.out
  clear H4 c0 c1 c2 c3 c4 c5 c6 c7 c8 c9 f
  generalize (World.setCell _ ⟨w.heap.size, 9, none⟩ (.bool L'.ended)) = w4 at hL4 hB4 ⊢
  obtain ⟨d0, d1, d2, d3, d4, d5, d6, d7, d8, d9, df⟩ := hL4
  refine bodyPost_ret (v := .tuple #[.string x, .agg #[.string L'.sql, .int .i64 L'.i, .int .i32 L'.kind, .int .i64 L'.n, .string L'.prev, .bool L'.cr, .bool L'.be, .int .i64 L'.depth, .bool L'.body, .bool L'.ended]]) ?_ rfl ⟨x, L', HQ.out, rfl, hB4⟩
  simp [results, Tryd.results10, go_sem, d0, d1, d2, d3, d4, d5, d6, d7, d8, d9]
end Go.Proofs.Qxb6603871aDoor
