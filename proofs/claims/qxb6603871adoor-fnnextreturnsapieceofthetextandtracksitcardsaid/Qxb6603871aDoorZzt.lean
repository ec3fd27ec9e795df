import Derived.Test.Qxb6603871aDoorSta
set_option linter.unusedVariables false
set_option linter.unusedSimpArgs false
namespace Go.Proofs.Qxb6603871aDoor
open Go.RowKit Go.PlainAid

def Lx.zero : Lx := ⟨⟨#[]⟩, 0, 0, 0, ⟨#[]⟩, false, false, 0, false, false⟩
/-- The world as ZZTrack has laid its result's block and the lexer. -/
def zzW (w : World) (L : Lx) : World :=
  (w.alloc (.cells #[.string ⟨#[]⟩, .int .i64 0, .int .i32 0, .int .i64 0, .string ⟨#[]⟩, .bool false, .bool false, .int .i64 0, .bool false, .bool false] 25)).alloc
    (.cells #[.string L.sql, .int .i64 L.i, .int .i32 L.kind, .int .i64 L.n, .string L.prev, .bool L.cr, .bool L.be, .int .i64 L.depth, .bool L.body, .bool L.ended] 44)
theorem zzW_lex (w : World) (L : Lx) : LexAt (zzW w L) (w.heap.size + 1) L := by
  have e : w.heap.size + 1 = (w.alloc (.cells #[.string ⟨#[]⟩, .int .i64 0, .int .i32 0, .int .i64 0, .string ⟨#[]⟩, .bool false, .bool false, .int .i64 0, .bool false, .bool false] 25)).heap.size := by simp
  refine ⟨?_, ?_, ?_, ?_, ?_, ?_, ?_, ?_, ?_, ?_, ?_⟩
  · unfold zzW; rw [World.cell?_alloc_at _ _ _ _ e]; rfl
  · unfold zzW; rw [World.cell?_alloc_at _ _ _ _ e]; rfl
  · unfold zzW; rw [World.cell?_alloc_at _ _ _ _ e]; rfl
  · unfold zzW; rw [World.cell?_alloc_at _ _ _ _ e]; rfl
  · unfold zzW; rw [World.cell?_alloc_at _ _ _ _ e]; rfl
  · unfold zzW; rw [World.cell?_alloc_at _ _ _ _ e]; rfl
  · unfold zzW; rw [World.cell?_alloc_at _ _ _ _ e]; rfl
  · unfold zzW; rw [World.cell?_alloc_at _ _ _ _ e]; rfl
  · unfold zzW; rw [World.cell?_alloc_at _ _ _ _ e]; rfl
  · unfold zzW; rw [World.cell?_alloc_at _ _ _ _ e]; rfl
  · intro k; unfold zzW; rw [World.frozen?_alloc_at _ _ _ _ e]
theorem zzW_res (w : World) (L : Lx) : LexAt (zzW w L) w.heap.size Lx.zero := by
  have e : w.heap.size < (w.alloc (.cells #[.string ⟨#[]⟩, .int .i64 0, .int .i32 0, .int .i64 0, .string ⟨#[]⟩, .bool false, .bool false, .int .i64 0, .bool false, .bool false] 25)).heap.size := by simp
  refine ⟨?_, ?_, ?_, ?_, ?_, ?_, ?_, ?_, ?_, ?_, ?_⟩
  · unfold zzW; rw [World.cell?_alloc_past _ _ _ e, World.cell?_alloc_at _ _ _ _ rfl]; rfl
  · unfold zzW; rw [World.cell?_alloc_past _ _ _ e, World.cell?_alloc_at _ _ _ _ rfl]; rfl
  · unfold zzW; rw [World.cell?_alloc_past _ _ _ e, World.cell?_alloc_at _ _ _ _ rfl]; rfl
  · unfold zzW; rw [World.cell?_alloc_past _ _ _ e, World.cell?_alloc_at _ _ _ _ rfl]; rfl
  · unfold zzW; rw [World.cell?_alloc_past _ _ _ e, World.cell?_alloc_at _ _ _ _ rfl]; rfl
  · unfold zzW; rw [World.cell?_alloc_past _ _ _ e, World.cell?_alloc_at _ _ _ _ rfl]; rfl
  · unfold zzW; rw [World.cell?_alloc_past _ _ _ e, World.cell?_alloc_at _ _ _ _ rfl]; rfl
  · unfold zzW; rw [World.cell?_alloc_past _ _ _ e, World.cell?_alloc_at _ _ _ _ rfl]; rfl
  · unfold zzW; rw [World.cell?_alloc_past _ _ _ e, World.cell?_alloc_at _ _ _ _ rfl]; rfl
  · unfold zzW; rw [World.cell?_alloc_past _ _ _ e, World.cell?_alloc_at _ _ _ _ rfl]; rfl
  · intro k; unfold zzW; rw [World.frozen?_alloc_past _ _ _ e, World.frozen?_alloc_at _ _ _ _ rfl]
theorem zzW_size (w : World) (L : Lx) : (zzW w L).heap.size = w.heap.size + 2 := by unfold zzW; simp
theorem zzW_below (w : World) (L : Lx) : Below w.heap.size w (zzW w L) := ((Below.refl _ _).alloc (Nat.le_refl _) _).alloc (by simp) _
theorem zzW_tk (w : World) (L : Lx) (hF : FoldTab w) : Tk w (zzW w L) (w.heap.size + 1) (zzW w L) where
  bel := zzW_below w L
  gb := ⟨rfl, rfl, rfl, Nat.le_refl _, fun _ _ _ => rfl⟩
  hb := by omega
  lt := by rw [zzW_size]; omega
  ft := hF
theorem LexAt.set0 {w : World} {b : Nat} {L : Lx} (h : LexAt w b L) (v : ByteArray) : LexAt (w.setCell ⟨b, 0, none⟩ (.string v)) b { L with sql := v } where
  c0 := World.cell?_setCell_same _ _ _ h.c0
  c1 := cell_other (by decide) h.c1
  c2 := cell_other (by decide) h.c2
  c3 := cell_other (by decide) h.c3
  c4 := cell_other (by decide) h.c4
  c5 := cell_other (by decide) h.c5
  c6 := cell_other (by decide) h.c6
  c7 := cell_other (by decide) h.c7
  c8 := cell_other (by decide) h.c8
  c9 := cell_other (by decide) h.c9
  f k := by rw [World.frozen?_setCell]; exact h.f k
theorem LexAt.set2 {w : World} {b : Nat} {L : Lx} (h : LexAt w b L) (v : Int) : LexAt (w.setCell ⟨b, 2, none⟩ (.int .i32 v)) b { L with kind := v } where
  c0 := cell_other (by decide) h.c0
  c1 := cell_other (by decide) h.c1
  c2 := World.cell?_setCell_same _ _ _ h.c2
  c3 := cell_other (by decide) h.c3
  c4 := cell_other (by decide) h.c4
  c5 := cell_other (by decide) h.c5
  c6 := cell_other (by decide) h.c6
  c7 := cell_other (by decide) h.c7
  c8 := cell_other (by decide) h.c8
  c9 := cell_other (by decide) h.c9
  f k := by rw [World.frozen?_setCell]; exact h.f k
/-- Another block than b, that was there, holds what it held. -/
theorem LexAt.gb {W w : World} {b r : Nat} {L : Lx} (h : LexAt W r L) (hg : W.grownBy w (some b)) (hr : r < W.heap.size) (hne : r ≠ b) : LexAt w r L := by
  have hbk : w.heap[r]? = W.heap[r]? := hg.block r hr (by intro e; exact hne (Option.some.inj e))
  have hc : ∀ k, w.cell? ⟨r, k, none⟩ = W.cell? ⟨r, k, none⟩ := fun k => World.cell?_of_block (w := W) (a := ⟨r, k, none⟩) hbk
  have hf : ∀ k, w.frozen? ⟨r, k, none⟩ = W.frozen? ⟨r, k, none⟩ := fun k => World.frozen?_of_block (w := W) (a := ⟨r, k, none⟩) hbk
  exact ⟨(hc 0).trans h.c0, (hc 1).trans h.c1, (hc 2).trans h.c2, (hc 3).trans h.c3, (hc 4).trans h.c4, (hc 5).trans h.c5, (hc 6).trans h.c6, (hc 7).trans h.c7, (hc 8).trans h.c8, (hc 9).trans h.c9, fun k => (hf k).trans (h.f k)⟩

set_option maxRecDepth 100000 in
set_option maxHeartbeats 4000000 in
theorem zztrack_any (L : Lx) (x : ByteArray) (w : World) (hF : FoldTab w) (hx : x.size ≤ 1048576) (hp : L.prev.size ≤ 1048576) (L' : Lx) (HL' : Hid (trackF L x = L')) :
    Calls Tryd.prog 12 #[.string L.sql, .int .i64 L.i, .int .i32 L.kind, .int .i64 L.n, .string L.prev, .bool L.cr, .bool L.be, .int .i64 L.depth, .bool L.body, .bool L.ended, .string x] w
      fun e w' => e = .returned (.agg #[.string L'.sql, .int .i64 L'.i, .int .i32 L'.kind, .int .i64 L'.n, .string L'.prev, .bool L'.cr, .bool L'.be, .int .i64 L'.depth, .bool L'.body, .bool L'.ended]) ∧ Below w.heap.size w w' := by
  have HF := mkHid hF
  clear hF
  have HC := mkHid (trk_any L x (w.heap.size + 1) w (zzW w L) (zzW_lex w L) (zzW_tk w L HF.out) hx hp)
  go_enter Tryd.func12, Tryd.ntmps12
  go_wp2_with (go_at_call 20; go_in)
  refine (HC.out).mono ?_
  rintro e w2 ⟨rfl, hL2, hT2⟩
  rw [HL'.out] at hL2
  have hR2 : LexAt w2 w.heap.size Lx.zero := (zzW_res w L).gb hT2.gb (by rw [zzW_size]; omega) (by omega)
  have hz2 : w.heap.size + 2 ≤ w2.heap.size := by have := hT2.gb.size; rw [zzW_size] at this; exact this
  have hB2 := hT2.bel
  clear hT2 HC
  go_wp2_with fail
  refine (state_any L' (w.heap.size + 1) _ hL2 (by omega)).mono ?_
  rintro e w3 ⟨rfl, hb3⟩
  have hR3 := hR2.below (by omega) hb3
  have hB3 : Below w.heap.size w w3 := hB2.trans (hb3.mono (by omega))
  clear hL2 hR2 hb3 hB2
  have hL4 := (((((((((hR3.set0 L'.sql).set1 L'.i).set2 L'.kind).set3 L'.n).set4 L'.prev).set5 L'.cr).set6 L'.be).set7 L'.depth).set8 L'.body).set9 L'.ended
  have hB4 := (((((((((hB3.setCell (p := ⟨w.heap.size, 0, none⟩) (Nat.le_refl _) (.string L'.sql)).setCell (p := ⟨w.heap.size, 1, none⟩) (Nat.le_refl _) (.int .i64 L'.i)).setCell (p := ⟨w.heap.size, 2, none⟩) (Nat.le_refl _) (.int .i32 L'.kind)).setCell (p := ⟨w.heap.size, 3, none⟩) (Nat.le_refl _) (.int .i64 L'.n)).setCell (p := ⟨w.heap.size, 4, none⟩) (Nat.le_refl _) (.string L'.prev)).setCell (p := ⟨w.heap.size, 5, none⟩) (Nat.le_refl _) (.bool L'.cr)).setCell (p := ⟨w.heap.size, 6, none⟩) (Nat.le_refl _) (.bool L'.be)).setCell (p := ⟨w.heap.size, 7, none⟩) (Nat.le_refl _) (.int .i64 L'.depth)).setCell (p := ⟨w.heap.size, 8, none⟩) (Nat.le_refl _) (.bool L'.body)).setCell (p := ⟨w.heap.size, 9, none⟩) (Nat.le_refl _) (.bool L'.ended)
  have H4 := mkHid (And.intro hL4 hB4)
  clear hL4 hB4
  obtain ⟨c0, c1, c2, c3, c4, c5, c6, c7, c8, c9, f⟩ := hR3
  go_wp2
  obtain ⟨hL4, hB4⟩ := H4.out
  clear H4 c0 c1 c2 c3 c4 c5 c6 c7 c8 c9 f
  generalize (World.setCell _ ⟨w.heap.size, 9, none⟩ (.bool L'.ended)) = w4 at hL4 hB4 ⊢
  obtain ⟨d0, d1, d2, d3, d4, d5, d6, d7, d8, d9, df⟩ := hL4
  refine bodyPost_ret (v := .agg #[.string L'.sql, .int .i64 L'.i, .int .i32 L'.kind, .int .i64 L'.n, .string L'.prev, .bool L'.cr, .bool L'.be, .int .i64 L'.depth, .bool L'.body, .bool L'.ended]) ?_ rfl ⟨rfl, hB4⟩
  simp [results, Tryd.results12, go_sem, d0, d1, d2, d3, d4, d5, d6, d7, d8, d9]
end Go.Proofs.Qxb6603871aDoor
