import Derived.Test.Qxb6603871aDoorTrk
import Derived.Handy
set_option linter.unusedVariables false
set_option linter.unusedSimpArgs false
namespace Go.Proofs.Qxb6603871aDoor
open Go.RowKit Go.PlainAid

theorem LexAt.below {w w' : World} {b : Nat} {L : Lx} (h : LexAt w b L) (hlt : b < w.heap.size) (hb : Below w.heap.size w w') : LexAt w' b L where
  c0 := (hb.cell (p := ⟨b, 0, none⟩) hlt).trans h.c0
  c1 := (hb.cell (p := ⟨b, 1, none⟩) hlt).trans h.c1
  c2 := (hb.cell (p := ⟨b, 2, none⟩) hlt).trans h.c2
  c3 := (hb.cell (p := ⟨b, 3, none⟩) hlt).trans h.c3
  c4 := (hb.cell (p := ⟨b, 4, none⟩) hlt).trans h.c4
  c5 := (hb.cell (p := ⟨b, 5, none⟩) hlt).trans h.c5
  c6 := (hb.cell (p := ⟨b, 6, none⟩) hlt).trans h.c6
  c7 := (hb.cell (p := ⟨b, 7, none⟩) hlt).trans h.c7
  c8 := (hb.cell (p := ⟨b, 8, none⟩) hlt).trans h.c8
  c9 := (hb.cell (p := ⟨b, 9, none⟩) hlt).trans h.c9
  f k := (hb.frozen (p := ⟨b, k, none⟩) hlt).trans (h.f k)
theorem cell_other {w : World} {b j k : Nat} {v u : Value} (hjk : j ≠ k) (h : w.cell? ⟨b, k, none⟩ = some u) : (w.setCell ⟨b, j, none⟩ v).cell? ⟨b, k, none⟩ = some u := by
  have key : (w.setCell ⟨b, j, none⟩ v).cell? ⟨b, k, none⟩ = w.cell? ⟨b, k, none⟩ := World.cell?_setCell_other _ _ _ _ (by intro e; injection e with e1 e2; exact hjk e2)
  exact key.trans h
theorem LexAt.set1 {w : World} {b : Nat} {L : Lx} (h : LexAt w b L) (v : Int) : LexAt (w.setCell ⟨b, 1, none⟩ (.int .i64 v)) b { L with i := v } where
  c0 := cell_other (by decide) h.c0
  c1 := World.cell?_setCell_same _ _ _ h.c1
  c2 := cell_other (by decide) h.c2
  c3 := cell_other (by decide) h.c3
  c4 := cell_other (by decide) h.c4
  c5 := cell_other (by decide) h.c5
  c6 := cell_other (by decide) h.c6
  c7 := cell_other (by decide) h.c7
  c8 := cell_other (by decide) h.c8
  c9 := cell_other (by decide) h.c9
  f k := by rw [World.frozen?_setCell]; exact h.f k
theorem LexAt.set3 {w : World} {b : Nat} {L : Lx} (h : LexAt w b L) (v : Int) : LexAt (w.setCell ⟨b, 3, none⟩ (.int .i64 v)) b { L with n := v } where
  c0 := cell_other (by decide) h.c0
  c1 := cell_other (by decide) h.c1
  c2 := cell_other (by decide) h.c2
  c3 := World.cell?_setCell_same _ _ _ h.c3
  c4 := cell_other (by decide) h.c4
  c5 := cell_other (by decide) h.c5
  c6 := cell_other (by decide) h.c6
  c7 := cell_other (by decide) h.c7
  c8 := cell_other (by decide) h.c8
  c9 := cell_other (by decide) h.c9
  f k := by rw [World.frozen?_setCell]; exact h.f k
theorem LexAt.set4 {w : World} {b : Nat} {L : Lx} (h : LexAt w b L) (v : ByteArray) : LexAt (w.setCell ⟨b, 4, none⟩ (.string v)) b { L with prev := v } where
  c0 := cell_other (by decide) h.c0
  c1 := cell_other (by decide) h.c1
  c2 := cell_other (by decide) h.c2
  c3 := cell_other (by decide) h.c3
  c4 := World.cell?_setCell_same _ _ _ h.c4
  c5 := cell_other (by decide) h.c5
  c6 := cell_other (by decide) h.c6
  c7 := cell_other (by decide) h.c7
  c8 := cell_other (by decide) h.c8
  c9 := cell_other (by decide) h.c9
  f k := by rw [World.frozen?_setCell]; exact h.f k
theorem LexAt.set5 {w : World} {b : Nat} {L : Lx} (h : LexAt w b L) (v : Bool) : LexAt (w.setCell ⟨b, 5, none⟩ (.bool v)) b { L with cr := v } where
  c0 := cell_other (by decide) h.c0
  c1 := cell_other (by decide) h.c1
  c2 := cell_other (by decide) h.c2
  c3 := cell_other (by decide) h.c3
  c4 := cell_other (by decide) h.c4
  c5 := World.cell?_setCell_same _ _ _ h.c5
  c6 := cell_other (by decide) h.c6
  c7 := cell_other (by decide) h.c7
  c8 := cell_other (by decide) h.c8
  c9 := cell_other (by decide) h.c9
  f k := by rw [World.frozen?_setCell]; exact h.f k
theorem LexAt.set6 {w : World} {b : Nat} {L : Lx} (h : LexAt w b L) (v : Bool) : LexAt (w.setCell ⟨b, 6, none⟩ (.bool v)) b { L with be := v } where
  c0 := cell_other (by decide) h.c0
  c1 := cell_other (by decide) h.c1
  c2 := cell_other (by decide) h.c2
  c3 := cell_other (by decide) h.c3
  c4 := cell_other (by decide) h.c4
  c5 := cell_other (by decide) h.c5
  c6 := World.cell?_setCell_same _ _ _ h.c6
  c7 := cell_other (by decide) h.c7
  c8 := cell_other (by decide) h.c8
  c9 := cell_other (by decide) h.c9
  f k := by rw [World.frozen?_setCell]; exact h.f k
theorem LexAt.set7 {w : World} {b : Nat} {L : Lx} (h : LexAt w b L) (v : Int) : LexAt (w.setCell ⟨b, 7, none⟩ (.int .i64 v)) b { L with depth := v } where
  c0 := cell_other (by decide) h.c0
  c1 := cell_other (by decide) h.c1
  c2 := cell_other (by decide) h.c2
  c3 := cell_other (by decide) h.c3
  c4 := cell_other (by decide) h.c4
  c5 := cell_other (by decide) h.c5
  c6 := cell_other (by decide) h.c6
  c7 := World.cell?_setCell_same _ _ _ h.c7
  c8 := cell_other (by decide) h.c8
  c9 := cell_other (by decide) h.c9
  f k := by rw [World.frozen?_setCell]; exact h.f k
theorem LexAt.set8 {w : World} {b : Nat} {L : Lx} (h : LexAt w b L) (v : Bool) : LexAt (w.setCell ⟨b, 8, none⟩ (.bool v)) b { L with body := v } where
  c0 := cell_other (by decide) h.c0
  c1 := cell_other (by decide) h.c1
  c2 := cell_other (by decide) h.c2
  c3 := cell_other (by decide) h.c3
  c4 := cell_other (by decide) h.c4
  c5 := cell_other (by decide) h.c5
  c6 := cell_other (by decide) h.c6
  c7 := cell_other (by decide) h.c7
  c8 := World.cell?_setCell_same _ _ _ h.c8
  c9 := cell_other (by decide) h.c9
  f k := by rw [World.frozen?_setCell]; exact h.f k
theorem LexAt.set9 {w : World} {b : Nat} {L : Lx} (h : LexAt w b L) (v : Bool) : LexAt (w.setCell ⟨b, 9, none⟩ (.bool v)) b { L with ended := v } where
  c0 := cell_other (by decide) h.c0
  c1 := cell_other (by decide) h.c1
  c2 := cell_other (by decide) h.c2
  c3 := cell_other (by decide) h.c3
  c4 := cell_other (by decide) h.c4
  c5 := cell_other (by decide) h.c5
  c6 := cell_other (by decide) h.c6
  c7 := cell_other (by decide) h.c7
  c8 := cell_other (by decide) h.c8
  c9 := World.cell?_setCell_same _ _ _ h.c9
  f k := by rw [World.frozen?_setCell]; exact h.f k

set_option maxRecDepth 100000 in
set_option maxHeartbeats 4000000 in
theorem trk_first (L : Lx) (x : ByteArray) (b : Nat) (W0 w : World) (hL : LexAt w b L) (hT : Tk W0 w b w) (hx : x.size ≤ 1048576) (hp : L.prev.size ≤ 1048576) (h1 : wrap64 (L.n + 1) = 1) :
    Calls Tryd.prog 23 #[.pointer (some ⟨b, 0, none⟩), .string x] w fun e w' => e = .returned (.tuple #[]) ∧ LexAt w' b (trackF L x) ∧ Tk W0 w b w' := by
  have HF : Hid (trackF L x = { L with n := wrap64 (L.n + 1), prev := x, cr := kw x kCREATE, be := kw x kBEGIN }) := by
    show _ = _; unfold trackF; simp only; rw [if_pos h1]
  have h1' : (wrap64 (L.n + 1) == 1) = true := by simp [h1]
  clear h1
  have hLN := hL.set3 (wrap64 (L.n + 1))
  have hTN : Tk W0 w b (w.setCell ⟨b, 3, none⟩ (.int .i64 (wrap64 (L.n + 1)))) := hT.set
  have HL := mkHid hLN
  have c2 := hL.c2
  have c3 := hL.c3
  have c4 := hL.c4
  have c5 := hL.c5
  have c6 := hL.c6
  have c7 := hL.c7
  have c8 := hL.c8
  have f := hL.f
  clear hL hLN
  go_enter Tryd.func23, Tryd.ntmps23
  go_wp2_with fail
  refine (m_kw x _ W0 w _ b hx ok_CREATE hTN).mono ?_
  rintro e w2 ⟨rfl, hT2, hb2⟩
  have HL2 := mkHid ((HL.out).below (hTN).lt hb2)
  clear hb2
  have e02 := HL2.out.c2
  have e03 := HL2.out.c3
  have e04 := HL2.out.c4
  have e05 := HL2.out.c5
  have e06 := HL2.out.c6
  have e07 := HL2.out.c7
  have e08 := HL2.out.c8
  have ef0 := HL2.out.f
  go_wp2_with fail
  refine (m_kw x _ W0 w _ b hx ok_BEGIN hT2).mono ?_
  rintro e w3 ⟨rfl, hT3, hb3⟩
  have HL3 := mkHid ((HL2.out).below (hT2).lt hb3)
  clear hb3
  have e12 := HL3.out.c2
  have e13 := HL3.out.c3
  have e14 := HL3.out.c4
  have e15 := HL3.out.c5
  have e16 := HL3.out.c6
  have e17 := HL3.out.c7
  have e18 := HL3.out.c8
  have ef1 := HL3.out.f
  go_wp2
  go_end0
  refine ⟨rfl, ?_, ((((hT3)).set).set).set⟩
  rw [HF.out]
  exact (((HL3.out).set5 (kw x kCREATE)).set6 (kw x kBEGIN)).set4 x

set_option maxRecDepth 100000 in
set_option maxHeartbeats 4000000 in
theorem trk_pg_AB (L : Lx) (x : ByteArray) (b : Nat) (W0 w : World) (hL : LexAt w b L) (hT : Tk W0 w b w) (hx : x.size ≤ 1048576) (hp : L.prev.size ≤ 1048576) (h1 : ¬ wrap64 (L.n + 1) = 1) (hk : L.kind = 2) (hc : L.cr = true) (hA : kw x kATOMIC = true) (hB : kw L.prev kBEGIN = true) :
    Calls Tryd.prog 23 #[.pointer (some ⟨b, 0, none⟩), .string x] w fun e w' => e = .returned (.tuple #[]) ∧ LexAt w' b (trackF L x) ∧ Tk W0 w b w' := by
  have HF : Hid (trackF L x = { L with n := wrap64 (L.n + 1), prev := x, depth := wrap64 (L.depth + 1) }) := by
    show _ = _; unfold trackF; simp only; rw [if_neg h1, if_pos ⟨hk, hc⟩]; rw [if_pos (by simp [hA, hB])]
  have h1' : (wrap64 (L.n + 1) == 1) = false := by simp [h1]
  have hk' : (L.kind == 2) = true := by simp [hk]
  clear h1 hk
  have hLN := hL.set3 (wrap64 (L.n + 1))
  have hTN : Tk W0 w b (w.setCell ⟨b, 3, none⟩ (.int .i64 (wrap64 (L.n + 1)))) := hT.set
  have HL := mkHid hLN
  have c2 := hL.c2
  have c3 := hL.c3
  have c4 := hL.c4
  have c5 := hL.c5
  have c6 := hL.c6
  have c7 := hL.c7
  have c8 := hL.c8
  have f := hL.f
  clear hL hLN
  go_enter Tryd.func23, Tryd.ntmps23
  go_wp2_with fail
  refine (m_kw x _ W0 w _ b hx ok_ATOMIC hTN).mono ?_
  rintro e w2 ⟨rfl, hT2, hb2⟩
  have HL2 := mkHid ((HL.out).below (hTN).lt hb2)
  clear hb2
  have e02 := HL2.out.c2
  have e03 := HL2.out.c3
  have e04 := HL2.out.c4
  have e05 := HL2.out.c5
  have e06 := HL2.out.c6
  have e07 := HL2.out.c7
  have e08 := HL2.out.c8
  have ef0 := HL2.out.f
  go_wp2_with fail
  refine (m_kw L.prev _ W0 w _ b hp ok_BEGIN hT2).mono ?_
  rintro e w3 ⟨rfl, hT3, hb3⟩
  have HL3 := mkHid ((HL2.out).below (hT2).lt hb3)
  clear hb3
  have e12 := HL3.out.c2
  have e13 := HL3.out.c3
  have e14 := HL3.out.c4
  have e15 := HL3.out.c5
  have e16 := HL3.out.c6
  have e17 := HL3.out.c7
  have e18 := HL3.out.c8
  have ef1 := HL3.out.f
  go_wp2
  go_end0
  refine ⟨rfl, ?_, (((hT3)).set).set⟩
  rw [HF.out]
  exact ((HL3.out).set7 (wrap64 (L.depth + 1))).set4 x

set_option maxRecDepth 100000 in
set_option maxHeartbeats 4000000 in
theorem trk_pg_AbdC (L : Lx) (x : ByteArray) (b : Nat) (W0 w : World) (hL : LexAt w b L) (hT : Tk W0 w b w) (hx : x.size ≤ 1048576) (hp : L.prev.size ≤ 1048576) (h1 : ¬ wrap64 (L.n + 1) = 1) (hk : L.kind = 2) (hc : L.cr = true) (hA : kw x kATOMIC = true) (hB : kw L.prev kBEGIN = false) (hC : kw x kCASE = true) (hd : 0 < L.depth) :
    Calls Tryd.prog 23 #[.pointer (some ⟨b, 0, none⟩), .string x] w fun e w' => e = .returned (.tuple #[]) ∧ LexAt w' b (trackF L x) ∧ Tk W0 w b w' := by
  have HF : Hid (trackF L x = { L with n := wrap64 (L.n + 1), prev := x, depth := wrap64 (L.depth + 1) }) := by
    show _ = _; unfold trackF; simp only; rw [if_neg h1, if_pos ⟨hk, hc⟩]; rw [if_pos (by simp [hA, hB, hC, hd])]
  have h1' : (wrap64 (L.n + 1) == 1) = false := by simp [h1]
  have hk' : (L.kind == 2) = true := by simp [hk]
  clear h1 hk
  have hLN := hL.set3 (wrap64 (L.n + 1))
  have hTN : Tk W0 w b (w.setCell ⟨b, 3, none⟩ (.int .i64 (wrap64 (L.n + 1)))) := hT.set
  have HL := mkHid hLN
  have c2 := hL.c2
  have c3 := hL.c3
  have c4 := hL.c4
  have c5 := hL.c5
  have c6 := hL.c6
  have c7 := hL.c7
  have c8 := hL.c8
  have f := hL.f
  clear hL hLN
  go_enter Tryd.func23, Tryd.ntmps23
  go_wp2_with fail
  refine (m_kw x _ W0 w _ b hx ok_ATOMIC hTN).mono ?_
  rintro e w2 ⟨rfl, hT2, hb2⟩
  have HL2 := mkHid ((HL.out).below (hTN).lt hb2)
  clear hb2
  have e02 := HL2.out.c2
  have e03 := HL2.out.c3
  have e04 := HL2.out.c4
  have e05 := HL2.out.c5
  have e06 := HL2.out.c6
  have e07 := HL2.out.c7
  have e08 := HL2.out.c8
  have ef0 := HL2.out.f
  go_wp2_with fail
  refine (m_kw L.prev _ W0 w _ b hp ok_BEGIN hT2).mono ?_
  rintro e w3 ⟨rfl, hT3, hb3⟩
  have HL3 := mkHid ((HL2.out).below (hT2).lt hb3)
  clear hb3
  have e12 := HL3.out.c2
  have e13 := HL3.out.c3
  have e14 := HL3.out.c4
  have e15 := HL3.out.c5
  have e16 := HL3.out.c6
  have e17 := HL3.out.c7
  have e18 := HL3.out.c8
  have ef1 := HL3.out.f
  go_wp2_with fail
  refine (m_kw x _ W0 w _ b hx ok_CASE hT3).mono ?_
  rintro e w4 ⟨rfl, hT4, hb4⟩
  have HL4 := mkHid ((HL3.out).below (hT3).lt hb4)
  clear hb4
  have e22 := HL4.out.c2
  have e23 := HL4.out.c3
  have e24 := HL4.out.c4
  have e25 := HL4.out.c5
  have e26 := HL4.out.c6
  have e27 := HL4.out.c7
  have e28 := HL4.out.c8
  have ef2 := HL4.out.f
  go_wp2
  go_end0
  refine ⟨rfl, ?_, (((hT4)).set).set⟩
  rw [HF.out]
  exact ((HL4.out).set7 (wrap64 (L.depth + 1))).set4 x

set_option maxRecDepth 100000 in
set_option maxHeartbeats 4000000 in
theorem trk_pg_AbdcE (L : Lx) (x : ByteArray) (b : Nat) (W0 w : World) (hL : LexAt w b L) (hT : Tk W0 w b w) (hx : x.size ≤ 1048576) (hp : L.prev.size ≤ 1048576) (h1 : ¬ wrap64 (L.n + 1) = 1) (hk : L.kind = 2) (hc : L.cr = true) (hA : kw x kATOMIC = true) (hB : kw L.prev kBEGIN = false) (hC : kw x kCASE = false) (hE : kw x kEND = true) (hd : 0 < L.depth) :
    Calls Tryd.prog 23 #[.pointer (some ⟨b, 0, none⟩), .string x] w fun e w' => e = .returned (.tuple #[]) ∧ LexAt w' b (trackF L x) ∧ Tk W0 w b w' := by
  have HF : Hid (trackF L x = { L with n := wrap64 (L.n + 1), prev := x, depth := wrap64 (L.depth - 1) }) := by
    show _ = _; unfold trackF; simp only; rw [if_neg h1, if_pos ⟨hk, hc⟩]; rw [if_neg (by simp [hA, hB, hC, hE, hd]), if_pos (by simp [hA, hB, hC, hE, hd])]
  have h1' : (wrap64 (L.n + 1) == 1) = false := by simp [h1]
  have hk' : (L.kind == 2) = true := by simp [hk]
  clear h1 hk
  have hLN := hL.set3 (wrap64 (L.n + 1))
  have hTN : Tk W0 w b (w.setCell ⟨b, 3, none⟩ (.int .i64 (wrap64 (L.n + 1)))) := hT.set
  have HL := mkHid hLN
  have c2 := hL.c2
  have c3 := hL.c3
  have c4 := hL.c4
  have c5 := hL.c5
  have c6 := hL.c6
  have c7 := hL.c7
  have c8 := hL.c8
  have f := hL.f
  clear hL hLN
  go_enter Tryd.func23, Tryd.ntmps23
  go_wp2_with fail
  refine (m_kw x _ W0 w _ b hx ok_ATOMIC hTN).mono ?_
  rintro e w2 ⟨rfl, hT2, hb2⟩
  have HL2 := mkHid ((HL.out).below (hTN).lt hb2)
  clear hb2
  have e02 := HL2.out.c2
  have e03 := HL2.out.c3
  have e04 := HL2.out.c4
  have e05 := HL2.out.c5
  have e06 := HL2.out.c6
  have e07 := HL2.out.c7
  have e08 := HL2.out.c8
  have ef0 := HL2.out.f
  go_wp2_with fail
  refine (m_kw L.prev _ W0 w _ b hp ok_BEGIN hT2).mono ?_
  rintro e w3 ⟨rfl, hT3, hb3⟩
  have HL3 := mkHid ((HL2.out).below (hT2).lt hb3)
  clear hb3
  have e12 := HL3.out.c2
  have e13 := HL3.out.c3
  have e14 := HL3.out.c4
  have e15 := HL3.out.c5
  have e16 := HL3.out.c6
  have e17 := HL3.out.c7
  have e18 := HL3.out.c8
  have ef1 := HL3.out.f
  go_wp2_with fail
  refine (m_kw x _ W0 w _ b hx ok_CASE hT3).mono ?_
  rintro e w4 ⟨rfl, hT4, hb4⟩
  have HL4 := mkHid ((HL3.out).below (hT3).lt hb4)
  clear hb4
  have e22 := HL4.out.c2
  have e23 := HL4.out.c3
  have e24 := HL4.out.c4
  have e25 := HL4.out.c5
  have e26 := HL4.out.c6
  have e27 := HL4.out.c7
  have e28 := HL4.out.c8
  have ef2 := HL4.out.f
  go_wp2_with fail
  refine (m_kw x _ W0 w _ b hx ok_END hT4).mono ?_
  rintro e w5 ⟨rfl, hT5, hb5⟩
  have HL5 := mkHid ((HL4.out).below (hT4).lt hb5)
  clear hb5
  have e32 := HL5.out.c2
  have e33 := HL5.out.c3
  have e34 := HL5.out.c4
  have e35 := HL5.out.c5
  have e36 := HL5.out.c6
  have e37 := HL5.out.c7
  have e38 := HL5.out.c8
  have ef3 := HL5.out.f
  go_wp2
  go_end0
  refine ⟨rfl, ?_, (((hT5)).set).set⟩
  rw [HF.out]
  exact ((HL5.out).set7 (wrap64 (L.depth - 1))).set4 x

set_option maxRecDepth 100000 in
set_option maxHeartbeats 4000000 in
theorem trk_pg_Abdce (L : Lx) (x : ByteArray) (b : Nat) (W0 w : World) (hL : LexAt w b L) (hT : Tk W0 w b w) (hx : x.size ≤ 1048576) (hp : L.prev.size ≤ 1048576) (h1 : ¬ wrap64 (L.n + 1) = 1) (hk : L.kind = 2) (hc : L.cr = true) (hA : kw x kATOMIC = true) (hB : kw L.prev kBEGIN = false) (hC : kw x kCASE = false) (hE : kw x kEND = false) (hd : 0 < L.depth) :
    Calls Tryd.prog 23 #[.pointer (some ⟨b, 0, none⟩), .string x] w fun e w' => e = .returned (.tuple #[]) ∧ LexAt w' b (trackF L x) ∧ Tk W0 w b w' := by
  have HF : Hid (trackF L x = { L with n := wrap64 (L.n + 1), prev := x }) := by
    show _ = _; unfold trackF; simp only; rw [if_neg h1, if_pos ⟨hk, hc⟩]; rw [if_neg (by simp [hA, hB, hC, hE, hd]), if_neg (by simp [hA, hB, hC, hE, hd])]
  have h1' : (wrap64 (L.n + 1) == 1) = false := by simp [h1]
  have hk' : (L.kind == 2) = true := by simp [hk]
  clear h1 hk
  have hLN := hL.set3 (wrap64 (L.n + 1))
  have hTN : Tk W0 w b (w.setCell ⟨b, 3, none⟩ (.int .i64 (wrap64 (L.n + 1)))) := hT.set
  have HL := mkHid hLN
  have c2 := hL.c2
  have c3 := hL.c3
  have c4 := hL.c4
  have c5 := hL.c5
  have c6 := hL.c6
  have c7 := hL.c7
  have c8 := hL.c8
  have f := hL.f
  clear hL hLN
  go_enter Tryd.func23, Tryd.ntmps23
  go_wp2_with fail
  refine (m_kw x _ W0 w _ b hx ok_ATOMIC hTN).mono ?_
  rintro e w2 ⟨rfl, hT2, hb2⟩
  have HL2 := mkHid ((HL.out).below (hTN).lt hb2)
  clear hb2
  have e02 := HL2.out.c2
  have e03 := HL2.out.c3
  have e04 := HL2.out.c4
  have e05 := HL2.out.c5
  have e06 := HL2.out.c6
  have e07 := HL2.out.c7
  have e08 := HL2.out.c8
  have ef0 := HL2.out.f
  go_wp2_with fail
  refine (m_kw L.prev _ W0 w _ b hp ok_BEGIN hT2).mono ?_
  rintro e w3 ⟨rfl, hT3, hb3⟩
  have HL3 := mkHid ((HL2.out).below (hT2).lt hb3)
  clear hb3
  have e12 := HL3.out.c2
  have e13 := HL3.out.c3
  have e14 := HL3.out.c4
  have e15 := HL3.out.c5
  have e16 := HL3.out.c6
  have e17 := HL3.out.c7
  have e18 := HL3.out.c8
  have ef1 := HL3.out.f
  go_wp2_with fail
  refine (m_kw x _ W0 w _ b hx ok_CASE hT3).mono ?_
  rintro e w4 ⟨rfl, hT4, hb4⟩
  have HL4 := mkHid ((HL3.out).below (hT3).lt hb4)
  clear hb4
  have e22 := HL4.out.c2
  have e23 := HL4.out.c3
  have e24 := HL4.out.c4
  have e25 := HL4.out.c5
  have e26 := HL4.out.c6
  have e27 := HL4.out.c7
  have e28 := HL4.out.c8
  have ef2 := HL4.out.f
  go_wp2_with fail
  refine (m_kw x _ W0 w _ b hx ok_END hT4).mono ?_
  rintro e w5 ⟨rfl, hT5, hb5⟩
  have HL5 := mkHid ((HL4.out).below (hT4).lt hb5)
  clear hb5
  have e32 := HL5.out.c2
  have e33 := HL5.out.c3
  have e34 := HL5.out.c4
  have e35 := HL5.out.c5
  have e36 := HL5.out.c6
  have e37 := HL5.out.c7
  have e38 := HL5.out.c8
  have ef3 := HL5.out.f
  go_wp2
  go_end0
  refine ⟨rfl, ?_, ((hT5)).set⟩
  rw [HF.out]
  exact (HL5.out).set4 x

set_option maxRecDepth 100000 in
set_option maxHeartbeats 4000000 in
theorem trk_pg_Abn (L : Lx) (x : ByteArray) (b : Nat) (W0 w : World) (hL : LexAt w b L) (hT : Tk W0 w b w) (hx : x.size ≤ 1048576) (hp : L.prev.size ≤ 1048576) (h1 : ¬ wrap64 (L.n + 1) = 1) (hk : L.kind = 2) (hc : L.cr = true) (hA : kw x kATOMIC = true) (hB : kw L.prev kBEGIN = false) (hd : ¬ 0 < L.depth) :
    Calls Tryd.prog 23 #[.pointer (some ⟨b, 0, none⟩), .string x] w fun e w' => e = .returned (.tuple #[]) ∧ LexAt w' b (trackF L x) ∧ Tk W0 w b w' := by
  have HF : Hid (trackF L x = { L with n := wrap64 (L.n + 1), prev := x }) := by
    show _ = _; unfold trackF; simp only; rw [if_neg h1, if_pos ⟨hk, hc⟩]; rw [if_neg (by simp [hA, hB, hd]), if_neg (by simp [hA, hB, hd])]
  have h1' : (wrap64 (L.n + 1) == 1) = false := by simp [h1]
  have hk' : (L.kind == 2) = true := by simp [hk]
  clear h1 hk
  have hLN := hL.set3 (wrap64 (L.n + 1))
  have hTN : Tk W0 w b (w.setCell ⟨b, 3, none⟩ (.int .i64 (wrap64 (L.n + 1)))) := hT.set
  have HL := mkHid hLN
  have c2 := hL.c2
  have c3 := hL.c3
  have c4 := hL.c4
  have c5 := hL.c5
  have c6 := hL.c6
  have c7 := hL.c7
  have c8 := hL.c8
  have f := hL.f
  clear hL hLN
  go_enter Tryd.func23, Tryd.ntmps23
  go_wp2_with fail
  refine (m_kw x _ W0 w _ b hx ok_ATOMIC hTN).mono ?_
  rintro e w2 ⟨rfl, hT2, hb2⟩
  have HL2 := mkHid ((HL.out).below (hTN).lt hb2)
  clear hb2
  have e02 := HL2.out.c2
  have e03 := HL2.out.c3
  have e04 := HL2.out.c4
  have e05 := HL2.out.c5
  have e06 := HL2.out.c6
  have e07 := HL2.out.c7
  have e08 := HL2.out.c8
  have ef0 := HL2.out.f
  go_wp2_with fail
  refine (m_kw L.prev _ W0 w _ b hp ok_BEGIN hT2).mono ?_
  rintro e w3 ⟨rfl, hT3, hb3⟩
  have HL3 := mkHid ((HL2.out).below (hT2).lt hb3)
  clear hb3
  have e12 := HL3.out.c2
  have e13 := HL3.out.c3
  have e14 := HL3.out.c4
  have e15 := HL3.out.c5
  have e16 := HL3.out.c6
  have e17 := HL3.out.c7
  have e18 := HL3.out.c8
  have ef1 := HL3.out.f
  go_wp2
  go_end0
  refine ⟨rfl, ?_, ((hT3)).set⟩
  rw [HF.out]
  exact (HL3.out).set4 x

set_option maxRecDepth 100000 in
set_option maxHeartbeats 4000000 in
theorem trk_pg_adC (L : Lx) (x : ByteArray) (b : Nat) (W0 w : World) (hL : LexAt w b L) (hT : Tk W0 w b w) (hx : x.size ≤ 1048576) (hp : L.prev.size ≤ 1048576) (h1 : ¬ wrap64 (L.n + 1) = 1) (hk : L.kind = 2) (hc : L.cr = true) (hA : kw x kATOMIC = false) (hC : kw x kCASE = true) (hd : 0 < L.depth) :
    Calls Tryd.prog 23 #[.pointer (some ⟨b, 0, none⟩), .string x] w fun e w' => e = .returned (.tuple #[]) ∧ LexAt w' b (trackF L x) ∧ Tk W0 w b w' := by
  have HF : Hid (trackF L x = { L with n := wrap64 (L.n + 1), prev := x, depth := wrap64 (L.depth + 1) }) := by
    show _ = _; unfold trackF; simp only; rw [if_neg h1, if_pos ⟨hk, hc⟩]; rw [if_pos (by simp [hA, hC, hd])]
  have h1' : (wrap64 (L.n + 1) == 1) = false := by simp [h1]
  have hk' : (L.kind == 2) = true := by simp [hk]
  clear h1 hk
  have hLN := hL.set3 (wrap64 (L.n + 1))
  have hTN : Tk W0 w b (w.setCell ⟨b, 3, none⟩ (.int .i64 (wrap64 (L.n + 1)))) := hT.set
  have HL := mkHid hLN
  have c2 := hL.c2
  have c3 := hL.c3
  have c4 := hL.c4
  have c5 := hL.c5
  have c6 := hL.c6
  have c7 := hL.c7
  have c8 := hL.c8
  have f := hL.f
  clear hL hLN
  go_enter Tryd.func23, Tryd.ntmps23
  go_wp2_with fail
  refine (m_kw x _ W0 w _ b hx ok_ATOMIC hTN).mono ?_
  rintro e w2 ⟨rfl, hT2, hb2⟩
  have HL2 := mkHid ((HL.out).below (hTN).lt hb2)
  clear hb2
  have e02 := HL2.out.c2
  have e03 := HL2.out.c3
  have e04 := HL2.out.c4
  have e05 := HL2.out.c5
  have e06 := HL2.out.c6
  have e07 := HL2.out.c7
  have e08 := HL2.out.c8
  have ef0 := HL2.out.f
  go_wp2_with fail
  refine (m_kw x _ W0 w _ b hx ok_CASE hT2).mono ?_
  rintro e w3 ⟨rfl, hT3, hb3⟩
  have HL3 := mkHid ((HL2.out).below (hT2).lt hb3)
  clear hb3
  have e12 := HL3.out.c2
  have e13 := HL3.out.c3
  have e14 := HL3.out.c4
  have e15 := HL3.out.c5
  have e16 := HL3.out.c6
  have e17 := HL3.out.c7
  have e18 := HL3.out.c8
  have ef1 := HL3.out.f
  go_wp2
  go_end0
  refine ⟨rfl, ?_, (((hT3)).set).set⟩
  rw [HF.out]
  exact ((HL3.out).set7 (wrap64 (L.depth + 1))).set4 x

set_option maxRecDepth 100000 in
set_option maxHeartbeats 4000000 in
theorem trk_pg_adcE (L : Lx) (x : ByteArray) (b : Nat) (W0 w : World) (hL : LexAt w b L) (hT : Tk W0 w b w) (hx : x.size ≤ 1048576) (hp : L.prev.size ≤ 1048576) (h1 : ¬ wrap64 (L.n + 1) = 1) (hk : L.kind = 2) (hc : L.cr = true) (hA : kw x kATOMIC = false) (hC : kw x kCASE = false) (hE : kw x kEND = true) (hd : 0 < L.depth) :
    Calls Tryd.prog 23 #[.pointer (some ⟨b, 0, none⟩), .string x] w fun e w' => e = .returned (.tuple #[]) ∧ LexAt w' b (trackF L x) ∧ Tk W0 w b w' := by
  have HF : Hid (trackF L x = { L with n := wrap64 (L.n + 1), prev := x, depth := wrap64 (L.depth - 1) }) := by
    show _ = _; unfold trackF; simp only; rw [if_neg h1, if_pos ⟨hk, hc⟩]; rw [if_neg (by simp [hA, hC, hE, hd]), if_pos (by simp [hA, hC, hE, hd])]
  have h1' : (wrap64 (L.n + 1) == 1) = false := by simp [h1]
  have hk' : (L.kind == 2) = true := by simp [hk]
  clear h1 hk
  have hLN := hL.set3 (wrap64 (L.n + 1))
  have hTN : Tk W0 w b (w.setCell ⟨b, 3, none⟩ (.int .i64 (wrap64 (L.n + 1)))) := hT.set
  have HL := mkHid hLN
  have c2 := hL.c2
  have c3 := hL.c3
  have c4 := hL.c4
  have c5 := hL.c5
  have c6 := hL.c6
  have c7 := hL.c7
  have c8 := hL.c8
  have f := hL.f
  clear hL hLN
  go_enter Tryd.func23, Tryd.ntmps23
  go_wp2_with fail
  refine (m_kw x _ W0 w _ b hx ok_ATOMIC hTN).mono ?_
  rintro e w2 ⟨rfl, hT2, hb2⟩
  have HL2 := mkHid ((HL.out).below (hTN).lt hb2)
  clear hb2
  have e02 := HL2.out.c2
  have e03 := HL2.out.c3
  have e04 := HL2.out.c4
  have e05 := HL2.out.c5
  have e06 := HL2.out.c6
  have e07 := HL2.out.c7
  have e08 := HL2.out.c8
  have ef0 := HL2.out.f
  go_wp2_with fail
  refine (m_kw x _ W0 w _ b hx ok_CASE hT2).mono ?_
  rintro e w3 ⟨rfl, hT3, hb3⟩
  have HL3 := mkHid ((HL2.out).below (hT2).lt hb3)
  clear hb3
  have e12 := HL3.out.c2
  have e13 := HL3.out.c3
  have e14 := HL3.out.c4
  have e15 := HL3.out.c5
  have e16 := HL3.out.c6
  have e17 := HL3.out.c7
  have e18 := HL3.out.c8
  have ef1 := HL3.out.f
  go_wp2_with fail
  refine (m_kw x _ W0 w _ b hx ok_END hT3).mono ?_
  rintro e w4 ⟨rfl, hT4, hb4⟩
  have HL4 := mkHid ((HL3.out).below (hT3).lt hb4)
  clear hb4
  have e22 := HL4.out.c2
  have e23 := HL4.out.c3
  have e24 := HL4.out.c4
  have e25 := HL4.out.c5
  have e26 := HL4.out.c6
  have e27 := HL4.out.c7
  have e28 := HL4.out.c8
  have ef2 := HL4.out.f
  go_wp2
  go_end0
  refine ⟨rfl, ?_, (((hT4)).set).set⟩
  rw [HF.out]
  exact ((HL4.out).set7 (wrap64 (L.depth - 1))).set4 x

set_option maxRecDepth 100000 in
set_option maxHeartbeats 4000000 in
theorem trk_pg_adce (L : Lx) (x : ByteArray) (b : Nat) (W0 w : World) (hL : LexAt w b L) (hT : Tk W0 w b w) (hx : x.size ≤ 1048576) (hp : L.prev.size ≤ 1048576) (h1 : ¬ wrap64 (L.n + 1) = 1) (hk : L.kind = 2) (hc : L.cr = true) (hA : kw x kATOMIC = false) (hC : kw x kCASE = false) (hE : kw x kEND = false) (hd : 0 < L.depth) :
    Calls Tryd.prog 23 #[.pointer (some ⟨b, 0, none⟩), .string x] w fun e w' => e = .returned (.tuple #[]) ∧ LexAt w' b (trackF L x) ∧ Tk W0 w b w' := by
  have HF : Hid (trackF L x = { L with n := wrap64 (L.n + 1), prev := x }) := by
    show _ = _; unfold trackF; simp only; rw [if_neg h1, if_pos ⟨hk, hc⟩]; rw [if_neg (by simp [hA, hC, hE, hd]), if_neg (by simp [hA, hC, hE, hd])]
  have h1' : (wrap64 (L.n + 1) == 1) = false := by simp [h1]
  have hk' : (L.kind == 2) = true := by simp [hk]
  clear h1 hk
  have hLN := hL.set3 (wrap64 (L.n + 1))
  have hTN : Tk W0 w b (w.setCell ⟨b, 3, none⟩ (.int .i64 (wrap64 (L.n + 1)))) := hT.set
  have HL := mkHid hLN
  have c2 := hL.c2
  have c3 := hL.c3
  have c4 := hL.c4
  have c5 := hL.c5
  have c6 := hL.c6
  have c7 := hL.c7
  have c8 := hL.c8
  have f := hL.f
  clear hL hLN
  go_enter Tryd.func23, Tryd.ntmps23
  go_wp2_with fail
  refine (m_kw x _ W0 w _ b hx ok_ATOMIC hTN).mono ?_
  rintro e w2 ⟨rfl, hT2, hb2⟩
  have HL2 := mkHid ((HL.out).below (hTN).lt hb2)
  clear hb2
  have e02 := HL2.out.c2
  have e03 := HL2.out.c3
  have e04 := HL2.out.c4
  have e05 := HL2.out.c5
  have e06 := HL2.out.c6
  have e07 := HL2.out.c7
  have e08 := HL2.out.c8
  have ef0 := HL2.out.f
  go_wp2_with fail
  refine (m_kw x _ W0 w _ b hx ok_CASE hT2).mono ?_
  rintro e w3 ⟨rfl, hT3, hb3⟩
  have HL3 := mkHid ((HL2.out).below (hT2).lt hb3)
  clear hb3
  have e12 := HL3.out.c2
  have e13 := HL3.out.c3
  have e14 := HL3.out.c4
  have e15 := HL3.out.c5
  have e16 := HL3.out.c6
  have e17 := HL3.out.c7
  have e18 := HL3.out.c8
  have ef1 := HL3.out.f
  go_wp2_with fail
  refine (m_kw x _ W0 w _ b hx ok_END hT3).mono ?_
  rintro e w4 ⟨rfl, hT4, hb4⟩
  have HL4 := mkHid ((HL3.out).below (hT3).lt hb4)
  clear hb4
  have e22 := HL4.out.c2
  have e23 := HL4.out.c3
  have e24 := HL4.out.c4
  have e25 := HL4.out.c5
  have e26 := HL4.out.c6
  have e27 := HL4.out.c7
  have e28 := HL4.out.c8
  have ef2 := HL4.out.f
  go_wp2
  go_end0
  refine ⟨rfl, ?_, ((hT4)).set⟩
  rw [HF.out]
  exact (HL4.out).set4 x

set_option maxRecDepth 100000 in
set_option maxHeartbeats 4000000 in
theorem trk_pg_an (L : Lx) (x : ByteArray) (b : Nat) (W0 w : World) (hL : LexAt w b L) (hT : Tk W0 w b w) (hx : x.size ≤ 1048576) (hp : L.prev.size ≤ 1048576) (h1 : ¬ wrap64 (L.n + 1) = 1) (hk : L.kind = 2) (hc : L.cr = true) (hA : kw x kATOMIC = false) (hd : ¬ 0 < L.depth) :
    Calls Tryd.prog 23 #[.pointer (some ⟨b, 0, none⟩), .string x] w fun e w' => e = .returned (.tuple #[]) ∧ LexAt w' b (trackF L x) ∧ Tk W0 w b w' := by
  have HF : Hid (trackF L x = { L with n := wrap64 (L.n + 1), prev := x }) := by
    show _ = _; unfold trackF; simp only; rw [if_neg h1, if_pos ⟨hk, hc⟩]; rw [if_neg (by simp [hA, hd]), if_neg (by simp [hA, hd])]
  have h1' : (wrap64 (L.n + 1) == 1) = false := by simp [h1]
  have hk' : (L.kind == 2) = true := by simp [hk]
  clear h1 hk
  have hLN := hL.set3 (wrap64 (L.n + 1))
  have hTN : Tk W0 w b (w.setCell ⟨b, 3, none⟩ (.int .i64 (wrap64 (L.n + 1)))) := hT.set
  have HL := mkHid hLN
  have c2 := hL.c2
  have c3 := hL.c3
  have c4 := hL.c4
  have c5 := hL.c5
  have c6 := hL.c6
  have c7 := hL.c7
  have c8 := hL.c8
  have f := hL.f
  clear hL hLN
  go_enter Tryd.func23, Tryd.ntmps23
  go_wp2_with fail
  refine (m_kw x _ W0 w _ b hx ok_ATOMIC hTN).mono ?_
  rintro e w2 ⟨rfl, hT2, hb2⟩
  have HL2 := mkHid ((HL.out).below (hTN).lt hb2)
  clear hb2
  have e02 := HL2.out.c2
  have e03 := HL2.out.c3
  have e04 := HL2.out.c4
  have e05 := HL2.out.c5
  have e06 := HL2.out.c6
  have e07 := HL2.out.c7
  have e08 := HL2.out.c8
  have ef0 := HL2.out.f
  go_wp2
  go_end0
  refine ⟨rfl, ?_, ((hT2)).set⟩
  rw [HF.out]
  exact (HL2.out).set4 x

set_option maxRecDepth 100000 in
set_option maxHeartbeats 4000000 in
theorem trk_mc_b (L : Lx) (x : ByteArray) (b : Nat) (W0 w : World) (hL : LexAt w b L) (hT : Tk W0 w b w) (hx : x.size ≤ 1048576) (hp : L.prev.size ≤ 1048576) (h1 : ¬ wrap64 (L.n + 1) = 1) (hk : L.kind = 3) (hc : L.cr = true) (h8 : wrap64 (L.n + 1) ≤ 8) (hb : L.body = true) :
    Calls Tryd.prog 23 #[.pointer (some ⟨b, 0, none⟩), .string x] w fun e w' => e = .returned (.tuple #[]) ∧ LexAt w' b (trackF L x) ∧ Tk W0 w b w' := by
  have HF : Hid (trackF L x = { L with n := wrap64 (L.n + 1), prev := x, body := true }) := by
    show _ = _; unfold trackF; simp only; rw [if_neg h1, if_neg (by omega), if_pos ⟨hk, hc, h8⟩, hb]; rfl
  have h1' : (wrap64 (L.n + 1) == 1) = false := by simp [h1]
  have hk' : (L.kind == 3) = true := by simp [hk]
  have hk2 : (L.kind == 2) = false := by simp [hk]
  clear h1 hk
  have hLN := hL.set3 (wrap64 (L.n + 1))
  have hTN : Tk W0 w b (w.setCell ⟨b, 3, none⟩ (.int .i64 (wrap64 (L.n + 1)))) := hT.set
  have HL := mkHid hLN
  have c2 := hL.c2
  have c3 := hL.c3
  have c4 := hL.c4
  have c5 := hL.c5
  have c6 := hL.c6
  have c7 := hL.c7
  have c8 := hL.c8
  have f := hL.f
  clear hL hLN
  go_enter Tryd.func23, Tryd.ntmps23
  go_wp2
  go_end0
  refine ⟨rfl, ?_, (((hTN)).set).set⟩
  rw [HF.out]
  exact ((HL.out).set8 true).set4 x

set_option maxRecDepth 100000 in
set_option maxHeartbeats 4000000 in
theorem trk_mc_0 (L : Lx) (x : ByteArray) (b : Nat) (W0 w : World) (hL : LexAt w b L) (hT : Tk W0 w b w) (hx : x.size ≤ 1048576) (hp : L.prev.size ≤ 1048576) (h1 : ¬ wrap64 (L.n + 1) = 1) (hk : L.kind = 3) (hc : L.cr = true) (h8 : wrap64 (L.n + 1) ≤ 8) (hb : L.body = false) (k0 : kw x kPROCEDURE = true) :
    Calls Tryd.prog 23 #[.pointer (some ⟨b, 0, none⟩), .string x] w fun e w' => e = .returned (.tuple #[]) ∧ LexAt w' b (trackF L x) ∧ Tk W0 w b w' := by
  have HF : Hid (trackF L x = { L with n := wrap64 (L.n + 1), prev := x, body := true }) := by
    show _ = _; unfold trackF; simp only; rw [if_neg h1, if_neg (by omega), if_pos ⟨hk, hc, h8⟩, hb]; simp [bodyW, k0]
  have h1' : (wrap64 (L.n + 1) == 1) = false := by simp [h1]
  have hk' : (L.kind == 3) = true := by simp [hk]
  have hk2 : (L.kind == 2) = false := by simp [hk]
  clear h1 hk
  have hLN := hL.set3 (wrap64 (L.n + 1))
  have hTN : Tk W0 w b (w.setCell ⟨b, 3, none⟩ (.int .i64 (wrap64 (L.n + 1)))) := hT.set
  have HL := mkHid hLN
  have c2 := hL.c2
  have c3 := hL.c3
  have c4 := hL.c4
  have c5 := hL.c5
  have c6 := hL.c6
  have c7 := hL.c7
  have c8 := hL.c8
  have f := hL.f
  clear hL hLN
  go_enter Tryd.func23, Tryd.ntmps23
  go_wp2_with fail
  refine (m_kw x _ W0 w _ b hx ok_PROCEDURE hTN).mono ?_
  rintro e w2 ⟨rfl, hT2, hb2⟩
  have HL2 := mkHid ((HL.out).below (hTN).lt hb2)
  clear hb2
  have e02 := HL2.out.c2
  have e03 := HL2.out.c3
  have e04 := HL2.out.c4
  have e05 := HL2.out.c5
  have e06 := HL2.out.c6
  have e07 := HL2.out.c7
  have e08 := HL2.out.c8
  have ef0 := HL2.out.f
  go_wp2
  go_end0
  refine ⟨rfl, ?_, (((hT2)).set).set⟩
  rw [HF.out]
  exact ((HL2.out).set8 true).set4 x

set_option maxRecDepth 100000 in
set_option maxHeartbeats 4000000 in
theorem trk_mc_1 (L : Lx) (x : ByteArray) (b : Nat) (W0 w : World) (hL : LexAt w b L) (hT : Tk W0 w b w) (hx : x.size ≤ 1048576) (hp : L.prev.size ≤ 1048576) (h1 : ¬ wrap64 (L.n + 1) = 1) (hk : L.kind = 3) (hc : L.cr = true) (h8 : wrap64 (L.n + 1) ≤ 8) (hb : L.body = false) (k0 : kw x kPROCEDURE = false) (k1 : kw x kFUNCTION = true) :
    Calls Tryd.prog 23 #[.pointer (some ⟨b, 0, none⟩), .string x] w fun e w' => e = .returned (.tuple #[]) ∧ LexAt w' b (trackF L x) ∧ Tk W0 w b w' := by
  have HF : Hid (trackF L x = { L with n := wrap64 (L.n + 1), prev := x, body := true }) := by
    show _ = _; unfold trackF; simp only; rw [if_neg h1, if_neg (by omega), if_pos ⟨hk, hc, h8⟩, hb]; simp [bodyW, k0, k1]
  have h1' : (wrap64 (L.n + 1) == 1) = false := by simp [h1]
  have hk' : (L.kind == 3) = true := by simp [hk]
  have hk2 : (L.kind == 2) = false := by simp [hk]
  clear h1 hk
  have hLN := hL.set3 (wrap64 (L.n + 1))
  have hTN : Tk W0 w b (w.setCell ⟨b, 3, none⟩ (.int .i64 (wrap64 (L.n + 1)))) := hT.set
  have HL := mkHid hLN
  have c2 := hL.c2
  have c3 := hL.c3
  have c4 := hL.c4
  have c5 := hL.c5
  have c6 := hL.c6
  have c7 := hL.c7
  have c8 := hL.c8
  have f := hL.f
  clear hL hLN
  go_enter Tryd.func23, Tryd.ntmps23
  go_wp2_with fail
  refine (m_kw x _ W0 w _ b hx ok_PROCEDURE hTN).mono ?_
  rintro e w2 ⟨rfl, hT2, hb2⟩
  have HL2 := mkHid ((HL.out).below (hTN).lt hb2)
  clear hb2
  have e02 := HL2.out.c2
  have e03 := HL2.out.c3
  have e04 := HL2.out.c4
  have e05 := HL2.out.c5
  have e06 := HL2.out.c6
  have e07 := HL2.out.c7
  have e08 := HL2.out.c8
  have ef0 := HL2.out.f
  go_wp2_with fail
  refine (m_kw x _ W0 w _ b hx ok_FUNCTION hT2).mono ?_
  rintro e w3 ⟨rfl, hT3, hb3⟩
  have HL3 := mkHid ((HL2.out).below (hT2).lt hb3)
  clear hb3
  have e12 := HL3.out.c2
  have e13 := HL3.out.c3
  have e14 := HL3.out.c4
  have e15 := HL3.out.c5
  have e16 := HL3.out.c6
  have e17 := HL3.out.c7
  have e18 := HL3.out.c8
  have ef1 := HL3.out.f
  go_wp2
  go_end0
  refine ⟨rfl, ?_, (((hT3)).set).set⟩
  rw [HF.out]
  exact ((HL3.out).set8 true).set4 x

set_option maxRecDepth 100000 in
set_option maxHeartbeats 4000000 in
theorem trk_mc_2 (L : Lx) (x : ByteArray) (b : Nat) (W0 w : World) (hL : LexAt w b L) (hT : Tk W0 w b w) (hx : x.size ≤ 1048576) (hp : L.prev.size ≤ 1048576) (h1 : ¬ wrap64 (L.n + 1) = 1) (hk : L.kind = 3) (hc : L.cr = true) (h8 : wrap64 (L.n + 1) ≤ 8) (hb : L.body = false) (k0 : kw x kPROCEDURE = false) (k1 : kw x kFUNCTION = false) (k2 : kw x kTRIGGER = true) :
    Calls Tryd.prog 23 #[.pointer (some ⟨b, 0, none⟩), .string x] w fun e w' => e = .returned (.tuple #[]) ∧ LexAt w' b (trackF L x) ∧ Tk W0 w b w' := by
  have HF : Hid (trackF L x = { L with n := wrap64 (L.n + 1), prev := x, body := true }) := by
    show _ = _; unfold trackF; simp only; rw [if_neg h1, if_neg (by omega), if_pos ⟨hk, hc, h8⟩, hb]; simp [bodyW, k0, k1, k2]
  have h1' : (wrap64 (L.n + 1) == 1) = false := by simp [h1]
  have hk' : (L.kind == 3) = true := by simp [hk]
  have hk2 : (L.kind == 2) = false := by simp [hk]
  clear h1 hk
  have hLN := hL.set3 (wrap64 (L.n + 1))
  have hTN : Tk W0 w b (w.setCell ⟨b, 3, none⟩ (.int .i64 (wrap64 (L.n + 1)))) := hT.set
  have HL := mkHid hLN
  have c2 := hL.c2
  have c3 := hL.c3
  have c4 := hL.c4
  have c5 := hL.c5
  have c6 := hL.c6
  have c7 := hL.c7
  have c8 := hL.c8
  have f := hL.f
  clear hL hLN
  go_enter Tryd.func23, Tryd.ntmps23
  go_wp2_with fail
  refine (m_kw x _ W0 w _ b hx ok_PROCEDURE hTN).mono ?_
  rintro e w2 ⟨rfl, hT2, hb2⟩
  have HL2 := mkHid ((HL.out).below (hTN).lt hb2)
  clear hb2
  have e02 := HL2.out.c2
  have e03 := HL2.out.c3
  have e04 := HL2.out.c4
  have e05 := HL2.out.c5
  have e06 := HL2.out.c6
  have e07 := HL2.out.c7
  have e08 := HL2.out.c8
  have ef0 := HL2.out.f
  go_wp2_with fail
  refine (m_kw x _ W0 w _ b hx ok_FUNCTION hT2).mono ?_
  rintro e w3 ⟨rfl, hT3, hb3⟩
  have HL3 := mkHid ((HL2.out).below (hT2).lt hb3)
  clear hb3
  have e12 := HL3.out.c2
  have e13 := HL3.out.c3
  have e14 := HL3.out.c4
  have e15 := HL3.out.c5
  have e16 := HL3.out.c6
  have e17 := HL3.out.c7
  have e18 := HL3.out.c8
  have ef1 := HL3.out.f
  go_wp2_with fail
  refine (m_kw x _ W0 w _ b hx ok_TRIGGER hT3).mono ?_
  rintro e w4 ⟨rfl, hT4, hb4⟩
  have HL4 := mkHid ((HL3.out).below (hT3).lt hb4)
  clear hb4
  have e22 := HL4.out.c2
  have e23 := HL4.out.c3
  have e24 := HL4.out.c4
  have e25 := HL4.out.c5
  have e26 := HL4.out.c6
  have e27 := HL4.out.c7
  have e28 := HL4.out.c8
  have ef2 := HL4.out.f
  go_wp2
  go_end0
  refine ⟨rfl, ?_, (((hT4)).set).set⟩
  rw [HF.out]
  exact ((HL4.out).set8 true).set4 x

set_option maxRecDepth 100000 in
set_option maxHeartbeats 4000000 in
theorem trk_mc_3 (L : Lx) (x : ByteArray) (b : Nat) (W0 w : World) (hL : LexAt w b L) (hT : Tk W0 w b w) (hx : x.size ≤ 1048576) (hp : L.prev.size ≤ 1048576) (h1 : ¬ wrap64 (L.n + 1) = 1) (hk : L.kind = 3) (hc : L.cr = true) (h8 : wrap64 (L.n + 1) ≤ 8) (hb : L.body = false) (k0 : kw x kPROCEDURE = false) (k1 : kw x kFUNCTION = false) (k2 : kw x kTRIGGER = false) (k3 : kw x kEVENT = true) :
    Calls Tryd.prog 23 #[.pointer (some ⟨b, 0, none⟩), .string x] w fun e w' => e = .returned (.tuple #[]) ∧ LexAt w' b (trackF L x) ∧ Tk W0 w b w' := by
  have HF : Hid (trackF L x = { L with n := wrap64 (L.n + 1), prev := x, body := true }) := by
    show _ = _; unfold trackF; simp only; rw [if_neg h1, if_neg (by omega), if_pos ⟨hk, hc, h8⟩, hb]; simp [bodyW, k0, k1, k2, k3]
  have h1' : (wrap64 (L.n + 1) == 1) = false := by simp [h1]
  have hk' : (L.kind == 3) = true := by simp [hk]
  have hk2 : (L.kind == 2) = false := by simp [hk]
  clear h1 hk
  have hLN := hL.set3 (wrap64 (L.n + 1))
  have hTN : Tk W0 w b (w.setCell ⟨b, 3, none⟩ (.int .i64 (wrap64 (L.n + 1)))) := hT.set
  have HL := mkHid hLN
  have c2 := hL.c2
  have c3 := hL.c3
  have c4 := hL.c4
  have c5 := hL.c5
  have c6 := hL.c6
  have c7 := hL.c7
  have c8 := hL.c8
  have f := hL.f
  clear hL hLN
  go_enter Tryd.func23, Tryd.ntmps23
  go_wp2_with fail
  refine (m_kw x _ W0 w _ b hx ok_PROCEDURE hTN).mono ?_
  rintro e w2 ⟨rfl, hT2, hb2⟩
  have HL2 := mkHid ((HL.out).below (hTN).lt hb2)
  clear hb2
  have e02 := HL2.out.c2
  have e03 := HL2.out.c3
  have e04 := HL2.out.c4
  have e05 := HL2.out.c5
  have e06 := HL2.out.c6
  have e07 := HL2.out.c7
  have e08 := HL2.out.c8
  have ef0 := HL2.out.f
  go_wp2_with fail
  refine (m_kw x _ W0 w _ b hx ok_FUNCTION hT2).mono ?_
  rintro e w3 ⟨rfl, hT3, hb3⟩
  have HL3 := mkHid ((HL2.out).below (hT2).lt hb3)
  clear hb3
  have e12 := HL3.out.c2
  have e13 := HL3.out.c3
  have e14 := HL3.out.c4
  have e15 := HL3.out.c5
  have e16 := HL3.out.c6
  have e17 := HL3.out.c7
  have e18 := HL3.out.c8
  have ef1 := HL3.out.f
  go_wp2_with fail
  refine (m_kw x _ W0 w _ b hx ok_TRIGGER hT3).mono ?_
  rintro e w4 ⟨rfl, hT4, hb4⟩
  have HL4 := mkHid ((HL3.out).below (hT3).lt hb4)
  clear hb4
  have e22 := HL4.out.c2
  have e23 := HL4.out.c3
  have e24 := HL4.out.c4
  have e25 := HL4.out.c5
  have e26 := HL4.out.c6
  have e27 := HL4.out.c7
  have e28 := HL4.out.c8
  have ef2 := HL4.out.f
  go_wp2_with fail
  refine (m_kw x _ W0 w _ b hx ok_EVENT hT4).mono ?_
  rintro e w5 ⟨rfl, hT5, hb5⟩
  have HL5 := mkHid ((HL4.out).below (hT4).lt hb5)
  clear hb5
  have e32 := HL5.out.c2
  have e33 := HL5.out.c3
  have e34 := HL5.out.c4
  have e35 := HL5.out.c5
  have e36 := HL5.out.c6
  have e37 := HL5.out.c7
  have e38 := HL5.out.c8
  have ef3 := HL5.out.f
  go_wp2
  go_end0
  refine ⟨rfl, ?_, (((hT5)).set).set⟩
  rw [HF.out]
  exact ((HL5.out).set8 true).set4 x

set_option maxRecDepth 100000 in
set_option maxHeartbeats 4000000 in
theorem trk_mc_4 (L : Lx) (x : ByteArray) (b : Nat) (W0 w : World) (hL : LexAt w b L) (hT : Tk W0 w b w) (hx : x.size ≤ 1048576) (hp : L.prev.size ≤ 1048576) (h1 : ¬ wrap64 (L.n + 1) = 1) (hk : L.kind = 3) (hc : L.cr = true) (h8 : wrap64 (L.n + 1) ≤ 8) (hb : L.body = false) (k0 : kw x kPROCEDURE = false) (k1 : kw x kFUNCTION = false) (k2 : kw x kTRIGGER = false) (k3 : kw x kEVENT = false) (k4 : kw x kPACKAGE = true) :
    Calls Tryd.prog 23 #[.pointer (some ⟨b, 0, none⟩), .string x] w fun e w' => e = .returned (.tuple #[]) ∧ LexAt w' b (trackF L x) ∧ Tk W0 w b w' := by
  have HF : Hid (trackF L x = { L with n := wrap64 (L.n + 1), prev := x, body := true }) := by
    show _ = _; unfold trackF; simp only; rw [if_neg h1, if_neg (by omega), if_pos ⟨hk, hc, h8⟩, hb]; simp [bodyW, k0, k1, k2, k3, k4]
  have h1' : (wrap64 (L.n + 1) == 1) = false := by simp [h1]
  have hk' : (L.kind == 3) = true := by simp [hk]
  have hk2 : (L.kind == 2) = false := by simp [hk]
  clear h1 hk
  have hLN := hL.set3 (wrap64 (L.n + 1))
  have hTN : Tk W0 w b (w.setCell ⟨b, 3, none⟩ (.int .i64 (wrap64 (L.n + 1)))) := hT.set
  have HL := mkHid hLN
  have c2 := hL.c2
  have c3 := hL.c3
  have c4 := hL.c4
  have c5 := hL.c5
  have c6 := hL.c6
  have c7 := hL.c7
  have c8 := hL.c8
  have f := hL.f
  clear hL hLN
  go_enter Tryd.func23, Tryd.ntmps23
  go_wp2_with fail
  refine (m_kw x _ W0 w _ b hx ok_PROCEDURE hTN).mono ?_
  rintro e w2 ⟨rfl, hT2, hb2⟩
  have HL2 := mkHid ((HL.out).below (hTN).lt hb2)
  clear hb2
  have e02 := HL2.out.c2
  have e03 := HL2.out.c3
  have e04 := HL2.out.c4
  have e05 := HL2.out.c5
  have e06 := HL2.out.c6
  have e07 := HL2.out.c7
  have e08 := HL2.out.c8
  have ef0 := HL2.out.f
  go_wp2_with fail
  refine (m_kw x _ W0 w _ b hx ok_FUNCTION hT2).mono ?_
  rintro e w3 ⟨rfl, hT3, hb3⟩
  have HL3 := mkHid ((HL2.out).below (hT2).lt hb3)
  clear hb3
  have e12 := HL3.out.c2
  have e13 := HL3.out.c3
  have e14 := HL3.out.c4
  have e15 := HL3.out.c5
  have e16 := HL3.out.c6
  have e17 := HL3.out.c7
  have e18 := HL3.out.c8
  have ef1 := HL3.out.f
  go_wp2_with fail
  refine (m_kw x _ W0 w _ b hx ok_TRIGGER hT3).mono ?_
  rintro e w4 ⟨rfl, hT4, hb4⟩
  have HL4 := mkHid ((HL3.out).below (hT3).lt hb4)
  clear hb4
  have e22 := HL4.out.c2
  have e23 := HL4.out.c3
  have e24 := HL4.out.c4
  have e25 := HL4.out.c5
  have e26 := HL4.out.c6
  have e27 := HL4.out.c7
  have e28 := HL4.out.c8
  have ef2 := HL4.out.f
  go_wp2_with fail
  refine (m_kw x _ W0 w _ b hx ok_EVENT hT4).mono ?_
  rintro e w5 ⟨rfl, hT5, hb5⟩
  have HL5 := mkHid ((HL4.out).below (hT4).lt hb5)
  clear hb5
  have e32 := HL5.out.c2
  have e33 := HL5.out.c3
  have e34 := HL5.out.c4
  have e35 := HL5.out.c5
  have e36 := HL5.out.c6
  have e37 := HL5.out.c7
  have e38 := HL5.out.c8
  have ef3 := HL5.out.f
  go_wp2_with fail
  refine (m_kw x _ W0 w _ b hx ok_PACKAGE hT5).mono ?_
  rintro e w6 ⟨rfl, hT6, hb6⟩
  have HL6 := mkHid ((HL5.out).below (hT5).lt hb6)
  clear hb6
  have e42 := HL6.out.c2
  have e43 := HL6.out.c3
  have e44 := HL6.out.c4
  have e45 := HL6.out.c5
  have e46 := HL6.out.c6
  have e47 := HL6.out.c7
  have e48 := HL6.out.c8
  have ef4 := HL6.out.f
  go_wp2
  go_end0
  refine ⟨rfl, ?_, (((hT6)).set).set⟩
  rw [HF.out]
  exact ((HL6.out).set8 true).set4 x

set_option maxRecDepth 100000 in
set_option maxHeartbeats 4000000 in
theorem trk_mc_5 (L : Lx) (x : ByteArray) (b : Nat) (W0 w : World) (hL : LexAt w b L) (hT : Tk W0 w b w) (hx : x.size ≤ 1048576) (hp : L.prev.size ≤ 1048576) (h1 : ¬ wrap64 (L.n + 1) = 1) (hk : L.kind = 3) (hc : L.cr = true) (h8 : wrap64 (L.n + 1) ≤ 8) (hb : L.body = false) (k0 : kw x kPROCEDURE = false) (k1 : kw x kFUNCTION = false) (k2 : kw x kTRIGGER = false) (k3 : kw x kEVENT = false) (k4 : kw x kPACKAGE = false) :
    Calls Tryd.prog 23 #[.pointer (some ⟨b, 0, none⟩), .string x] w fun e w' => e = .returned (.tuple #[]) ∧ LexAt w' b (trackF L x) ∧ Tk W0 w b w' := by
  have HF : Hid (trackF L x = { L with n := wrap64 (L.n + 1), prev := x, body := false }) := by
    show _ = _; unfold trackF; simp only; rw [if_neg h1, if_neg (by omega), if_pos ⟨hk, hc, h8⟩, hb]; simp [bodyW, k0, k1, k2, k3, k4]
  have h1' : (wrap64 (L.n + 1) == 1) = false := by simp [h1]
  have hk' : (L.kind == 3) = true := by simp [hk]
  have hk2 : (L.kind == 2) = false := by simp [hk]
  clear h1 hk
  have hLN := hL.set3 (wrap64 (L.n + 1))
  have hTN : Tk W0 w b (w.setCell ⟨b, 3, none⟩ (.int .i64 (wrap64 (L.n + 1)))) := hT.set
  have HL := mkHid hLN
  have c2 := hL.c2
  have c3 := hL.c3
  have c4 := hL.c4
  have c5 := hL.c5
  have c6 := hL.c6
  have c7 := hL.c7
  have c8 := hL.c8
  have f := hL.f
  clear hL hLN
  go_enter Tryd.func23, Tryd.ntmps23
  go_wp2_with fail
  refine (m_kw x _ W0 w _ b hx ok_PROCEDURE hTN).mono ?_
  rintro e w2 ⟨rfl, hT2, hb2⟩
  have HL2 := mkHid ((HL.out).below (hTN).lt hb2)
  clear hb2
  have e02 := HL2.out.c2
  have e03 := HL2.out.c3
  have e04 := HL2.out.c4
  have e05 := HL2.out.c5
  have e06 := HL2.out.c6
  have e07 := HL2.out.c7
  have e08 := HL2.out.c8
  have ef0 := HL2.out.f
  go_wp2_with fail
  refine (m_kw x _ W0 w _ b hx ok_FUNCTION hT2).mono ?_
  rintro e w3 ⟨rfl, hT3, hb3⟩
  have HL3 := mkHid ((HL2.out).below (hT2).lt hb3)
  clear hb3
  have e12 := HL3.out.c2
  have e13 := HL3.out.c3
  have e14 := HL3.out.c4
  have e15 := HL3.out.c5
  have e16 := HL3.out.c6
  have e17 := HL3.out.c7
  have e18 := HL3.out.c8
  have ef1 := HL3.out.f
  go_wp2_with fail
  refine (m_kw x _ W0 w _ b hx ok_TRIGGER hT3).mono ?_
  rintro e w4 ⟨rfl, hT4, hb4⟩
  have HL4 := mkHid ((HL3.out).below (hT3).lt hb4)
  clear hb4
  have e22 := HL4.out.c2
  have e23 := HL4.out.c3
  have e24 := HL4.out.c4
  have e25 := HL4.out.c5
  have e26 := HL4.out.c6
  have e27 := HL4.out.c7
  have e28 := HL4.out.c8
  have ef2 := HL4.out.f
  go_wp2_with fail
  refine (m_kw x _ W0 w _ b hx ok_EVENT hT4).mono ?_
  rintro e w5 ⟨rfl, hT5, hb5⟩
  have HL5 := mkHid ((HL4.out).below (hT4).lt hb5)
  clear hb5
  have e32 := HL5.out.c2
  have e33 := HL5.out.c3
  have e34 := HL5.out.c4
  have e35 := HL5.out.c5
  have e36 := HL5.out.c6
  have e37 := HL5.out.c7
  have e38 := HL5.out.c8
  have ef3 := HL5.out.f
  go_wp2_with fail
  refine (m_kw x _ W0 w _ b hx ok_PACKAGE hT5).mono ?_
  rintro e w6 ⟨rfl, hT6, hb6⟩
  have HL6 := mkHid ((HL5.out).below (hT5).lt hb6)
  clear hb6
  have e42 := HL6.out.c2
  have e43 := HL6.out.c3
  have e44 := HL6.out.c4
  have e45 := HL6.out.c5
  have e46 := HL6.out.c6
  have e47 := HL6.out.c7
  have e48 := HL6.out.c8
  have ef4 := HL6.out.f
  go_wp2
  go_end0
  refine ⟨rfl, ?_, (((hT6)).set).set⟩
  rw [HF.out]
  exact ((HL6.out).set8 false).set4 x

set_option maxRecDepth 100000 in
set_option maxHeartbeats 4000000 in
theorem trk_mb (L : Lx) (x : ByteArray) (b : Nat) (W0 w : World) (hL : LexAt w b L) (hT : Tk W0 w b w) (hx : x.size ≤ 1048576) (hp : L.prev.size ≤ 1048576) (h1 : ¬ wrap64 (L.n + 1) = 1) (hk : L.kind = 3) (hnc : ¬ (L.cr = true ∧ wrap64 (L.n + 1) ≤ 8)) (hbe : L.be = true) (h2 : wrap64 (L.n + 1) = 2) :
    Calls Tryd.prog 23 #[.pointer (some ⟨b, 0, none⟩), .string x] w fun e w' => e = .returned (.tuple #[]) ∧ LexAt w' b (trackF L x) ∧ Tk W0 w b w' := by
  have HF : Hid (trackF L x = { L with n := wrap64 (L.n + 1), prev := x, body := kw x kNOT }) := by
    show _ = _; unfold trackF; simp only; rw [if_neg h1, if_neg (by omega), if_neg (by intro e; exact hnc e.2), if_pos ⟨hk, hbe, h2⟩]
  have h1' : (wrap64 (L.n + 1) == 1) = false := by simp [h1]
  have hk' : (L.kind == 3) = true := by simp [hk]
  have hk2 : (L.kind == 2) = false := by simp [hk]
  have h2' : (wrap64 (L.n + 1) == 2) = true := by simp [h2]
  have h8 : wrap64 (L.n + 1) ≤ 8 := by omega
  have hc : L.cr = false := by cases e : L.cr with | false => rfl | true => exact absurd ⟨e, h8⟩ hnc
  clear h1 hk h2 hnc
  have hLN := hL.set3 (wrap64 (L.n + 1))
  have hTN : Tk W0 w b (w.setCell ⟨b, 3, none⟩ (.int .i64 (wrap64 (L.n + 1)))) := hT.set
  have HL := mkHid hLN
  have c2 := hL.c2
  have c3 := hL.c3
  have c4 := hL.c4
  have c5 := hL.c5
  have c6 := hL.c6
  have c7 := hL.c7
  have c8 := hL.c8
  have f := hL.f
  clear hL hLN
  go_enter Tryd.func23, Tryd.ntmps23
  go_wp2_with fail
  refine (m_kw x _ W0 w _ b hx ok_NOT hTN).mono ?_
  rintro e w2 ⟨rfl, hT2, hb2⟩
  have HL2 := mkHid ((HL.out).below (hTN).lt hb2)
  clear hb2
  have e02 := HL2.out.c2
  have e03 := HL2.out.c3
  have e04 := HL2.out.c4
  have e05 := HL2.out.c5
  have e06 := HL2.out.c6
  have e07 := HL2.out.c7
  have e08 := HL2.out.c8
  have ef0 := HL2.out.f
  go_wp2
  go_end0
  refine ⟨rfl, ?_, (((hT2)).set).set⟩
  rw [HF.out]
  exact ((HL2.out).set8 (kw x kNOT)).set4 x

set_option maxRecDepth 100000 in
set_option maxHeartbeats 4000000 in
theorem trk_n1 (L : Lx) (x : ByteArray) (b : Nat) (W0 w : World) (hL : LexAt w b L) (hT : Tk W0 w b w) (hx : x.size ≤ 1048576) (hp : L.prev.size ≤ 1048576) (h1 : ¬ wrap64 (L.n + 1) = 1) (hk2 : ¬ L.kind = 2) (hk3 : ¬ L.kind = 3) :
    Calls Tryd.prog 23 #[.pointer (some ⟨b, 0, none⟩), .string x] w fun e w' => e = .returned (.tuple #[]) ∧ LexAt w' b (trackF L x) ∧ Tk W0 w b w' := by
  have HF : Hid (trackF L x = { L with n := wrap64 (L.n + 1), prev := x }) := by
    show _ = _; unfold trackF; simp only; rw [if_neg h1, if_neg (by omega), if_neg (by omega), if_neg (by omega)]
  have h1' : (wrap64 (L.n + 1) == 1) = false := by simp [h1]
  have hk2' : (L.kind == 2) = false := by simp [hk2]
  have hk3' : (L.kind == 3) = false := by simp [hk3]
  clear h1 hk2 hk3
  have hLN := hL.set3 (wrap64 (L.n + 1))
  have hTN : Tk W0 w b (w.setCell ⟨b, 3, none⟩ (.int .i64 (wrap64 (L.n + 1)))) := hT.set
  have HL := mkHid hLN
  have c2 := hL.c2
  have c3 := hL.c3
  have c4 := hL.c4
  have c5 := hL.c5
  have c6 := hL.c6
  have c7 := hL.c7
  have c8 := hL.c8
  have f := hL.f
  clear hL hLN
  go_enter Tryd.func23, Tryd.ntmps23
  go_wp2
  go_end0
  refine ⟨rfl, ?_, ((hTN)).set⟩
  rw [HF.out]
  exact (HL.out).set4 x

set_option maxRecDepth 100000 in
set_option maxHeartbeats 4000000 in
theorem trk_n2 (L : Lx) (x : ByteArray) (b : Nat) (W0 w : World) (hL : LexAt w b L) (hT : Tk W0 w b w) (hx : x.size ≤ 1048576) (hp : L.prev.size ≤ 1048576) (h1 : ¬ wrap64 (L.n + 1) = 1) (hk2 : L.kind = 2) (hc : L.cr = false) :
    Calls Tryd.prog 23 #[.pointer (some ⟨b, 0, none⟩), .string x] w fun e w' => e = .returned (.tuple #[]) ∧ LexAt w' b (trackF L x) ∧ Tk W0 w b w' := by
  have HF : Hid (trackF L x = { L with n := wrap64 (L.n + 1), prev := x }) := by
    show _ = _; unfold trackF; simp only; rw [if_neg h1, if_neg (by simp [hc]), if_neg (by omega), if_neg (by omega)]
  have h1' : (wrap64 (L.n + 1) == 1) = false := by simp [h1]
  have hk2' : (L.kind == 2) = true := by simp [hk2]
  have hk3' : (L.kind == 3) = false := by simp [hk2]
  clear h1 hk2
  have hLN := hL.set3 (wrap64 (L.n + 1))
  have hTN : Tk W0 w b (w.setCell ⟨b, 3, none⟩ (.int .i64 (wrap64 (L.n + 1)))) := hT.set
  have HL := mkHid hLN
  have c2 := hL.c2
  have c3 := hL.c3
  have c4 := hL.c4
  have c5 := hL.c5
  have c6 := hL.c6
  have c7 := hL.c7
  have c8 := hL.c8
  have f := hL.f
  clear hL hLN
  go_enter Tryd.func23, Tryd.ntmps23
  go_wp2
  go_end0
  refine ⟨rfl, ?_, ((hTN)).set⟩
  rw [HF.out]
  exact (HL.out).set4 x

set_option maxRecDepth 100000 in
set_option maxHeartbeats 4000000 in
theorem trk_n3t (L : Lx) (x : ByteArray) (b : Nat) (W0 w : World) (hL : LexAt w b L) (hT : Tk W0 w b w) (hx : x.size ≤ 1048576) (hp : L.prev.size ≤ 1048576) (h1 : ¬ wrap64 (L.n + 1) = 1) (hk3 : L.kind = 3) (hc : L.cr = true) (h8 : ¬ wrap64 (L.n + 1) ≤ 8) (hbe : L.be = true) :
    Calls Tryd.prog 23 #[.pointer (some ⟨b, 0, none⟩), .string x] w fun e w' => e = .returned (.tuple #[]) ∧ LexAt w' b (trackF L x) ∧ Tk W0 w b w' := by
  have HF : Hid (trackF L x = { L with n := wrap64 (L.n + 1), prev := x }) := by
    show _ = _; unfold trackF; simp only; rw [if_neg h1, if_neg (by omega), if_neg (by omega), if_neg (by omega)]
  have h1' : (wrap64 (L.n + 1) == 1) = false := by simp [h1]
  have hk2' : (L.kind == 2) = false := by simp [hk3]
  have hk3' : (L.kind == 3) = true := by simp [hk3]
  have h2' : (wrap64 (L.n + 1) == 2) = false := by simp; omega
  clear h1 hk3
  have hLN := hL.set3 (wrap64 (L.n + 1))
  have hTN : Tk W0 w b (w.setCell ⟨b, 3, none⟩ (.int .i64 (wrap64 (L.n + 1)))) := hT.set
  have HL := mkHid hLN
  have c2 := hL.c2
  have c3 := hL.c3
  have c4 := hL.c4
  have c5 := hL.c5
  have c6 := hL.c6
  have c7 := hL.c7
  have c8 := hL.c8
  have f := hL.f
  clear hL hLN
  go_enter Tryd.func23, Tryd.ntmps23
  go_wp2
  go_end0
  refine ⟨rfl, ?_, ((hTN)).set⟩
  rw [HF.out]
  exact (HL.out).set4 x

set_option maxRecDepth 100000 in
set_option maxHeartbeats 4000000 in
theorem trk_n3f (L : Lx) (x : ByteArray) (b : Nat) (W0 w : World) (hL : LexAt w b L) (hT : Tk W0 w b w) (hx : x.size ≤ 1048576) (hp : L.prev.size ≤ 1048576) (h1 : ¬ wrap64 (L.n + 1) = 1) (hk3 : L.kind = 3) (hc : L.cr = true) (h8 : ¬ wrap64 (L.n + 1) ≤ 8) (hbe : L.be = false) :
    Calls Tryd.prog 23 #[.pointer (some ⟨b, 0, none⟩), .string x] w fun e w' => e = .returned (.tuple #[]) ∧ LexAt w' b (trackF L x) ∧ Tk W0 w b w' := by
  have HF : Hid (trackF L x = { L with n := wrap64 (L.n + 1), prev := x }) := by
    show _ = _; unfold trackF; simp only; rw [if_neg h1, if_neg (by omega), if_neg (by omega), if_neg (by omega)]
  have h1' : (wrap64 (L.n + 1) == 1) = false := by simp [h1]
  have hk2' : (L.kind == 2) = false := by simp [hk3]
  have hk3' : (L.kind == 3) = true := by simp [hk3]
  have h2' : (wrap64 (L.n + 1) == 2) = false := by simp; omega
  clear h1 hk3
  have hLN := hL.set3 (wrap64 (L.n + 1))
  have hTN : Tk W0 w b (w.setCell ⟨b, 3, none⟩ (.int .i64 (wrap64 (L.n + 1)))) := hT.set
  have HL := mkHid hLN
  have c2 := hL.c2
  have c3 := hL.c3
  have c4 := hL.c4
  have c5 := hL.c5
  have c6 := hL.c6
  have c7 := hL.c7
  have c8 := hL.c8
  have f := hL.f
  clear hL hLN
  go_enter Tryd.func23, Tryd.ntmps23
  go_wp2
  go_end0
  refine ⟨rfl, ?_, ((hTN)).set⟩
  rw [HF.out]
  exact (HL.out).set4 x

set_option maxRecDepth 100000 in
set_option maxHeartbeats 4000000 in
theorem trk_n4f (L : Lx) (x : ByteArray) (b : Nat) (W0 w : World) (hL : LexAt w b L) (hT : Tk W0 w b w) (hx : x.size ≤ 1048576) (hp : L.prev.size ≤ 1048576) (h1 : ¬ wrap64 (L.n + 1) = 1) (hk3 : L.kind = 3) (hc : L.cr = false) (hbe : L.be = false) :
    Calls Tryd.prog 23 #[.pointer (some ⟨b, 0, none⟩), .string x] w fun e w' => e = .returned (.tuple #[]) ∧ LexAt w' b (trackF L x) ∧ Tk W0 w b w' := by
  have HF : Hid (trackF L x = { L with n := wrap64 (L.n + 1), prev := x }) := by
    show _ = _; unfold trackF; simp only; rw [if_neg h1, if_neg (by omega), if_neg (by simp [hc]), if_neg (by simp [hbe])]
  have h1' : (wrap64 (L.n + 1) == 1) = false := by simp [h1]
  have hk2' : (L.kind == 2) = false := by simp [hk3]
  have hk3' : (L.kind == 3) = true := by simp [hk3]
  clear h1 hk3
  have hLN := hL.set3 (wrap64 (L.n + 1))
  have hTN : Tk W0 w b (w.setCell ⟨b, 3, none⟩ (.int .i64 (wrap64 (L.n + 1)))) := hT.set
  have HL := mkHid hLN
  have c2 := hL.c2
  have c3 := hL.c3
  have c4 := hL.c4
  have c5 := hL.c5
  have c6 := hL.c6
  have c7 := hL.c7
  have c8 := hL.c8
  have f := hL.f
  clear hL hLN
  go_enter Tryd.func23, Tryd.ntmps23
  go_wp2
  go_end0
  refine ⟨rfl, ?_, ((hTN)).set⟩
  rw [HF.out]
  exact (HL.out).set4 x

set_option maxRecDepth 100000 in
set_option maxHeartbeats 4000000 in
theorem trk_n4t (L : Lx) (x : ByteArray) (b : Nat) (W0 w : World) (hL : LexAt w b L) (hT : Tk W0 w b w) (hx : x.size ≤ 1048576) (hp : L.prev.size ≤ 1048576) (h1 : ¬ wrap64 (L.n + 1) = 1) (hk3 : L.kind = 3) (hc : L.cr = false) (hbe : L.be = true) (h2 : ¬ wrap64 (L.n + 1) = 2) :
    Calls Tryd.prog 23 #[.pointer (some ⟨b, 0, none⟩), .string x] w fun e w' => e = .returned (.tuple #[]) ∧ LexAt w' b (trackF L x) ∧ Tk W0 w b w' := by
  have HF : Hid (trackF L x = { L with n := wrap64 (L.n + 1), prev := x }) := by
    show _ = _; unfold trackF; simp only; rw [if_neg h1, if_neg (by omega), if_neg (by simp [hc]), if_neg (by omega)]
  have h1' : (wrap64 (L.n + 1) == 1) = false := by simp [h1]
  have hk2' : (L.kind == 2) = false := by simp [hk3]
  have hk3' : (L.kind == 3) = true := by simp [hk3]
  have h2' : (wrap64 (L.n + 1) == 2) = false := by simp [h2]
  clear h1 hk3 h2
  have hLN := hL.set3 (wrap64 (L.n + 1))
  have hTN : Tk W0 w b (w.setCell ⟨b, 3, none⟩ (.int .i64 (wrap64 (L.n + 1)))) := hT.set
  have HL := mkHid hLN
  have c2 := hL.c2
  have c3 := hL.c3
  have c4 := hL.c4
  have c5 := hL.c5
  have c6 := hL.c6
  have c7 := hL.c7
  have c8 := hL.c8
  have f := hL.f
  clear hL hLN
  go_enter Tryd.func23, Tryd.ntmps23
  go_wp2
  go_end0
  refine ⟨rfl, ?_, ((hTN)).set⟩
  rw [HF.out]
  exact (HL.out).set4 x

theorem trk_any (L : Lx) (x : ByteArray) (b : Nat) (W0 w : World) (hL : LexAt w b L) (hT : Tk W0 w b w) (hx : x.size ≤ 1048576) (hp : L.prev.size ≤ 1048576) :
    Calls Tryd.prog 23 #[.pointer (some ⟨b, 0, none⟩), .string x] w fun e w' => e = .returned (.tuple #[]) ∧ LexAt w' b (trackF L x) ∧ Tk W0 w b w' := by
  by_cases h1 : wrap64 (L.n + 1) = 1
  · exact trk_first L x b W0 w hL hT hx hp h1
  by_cases hk2 : L.kind = 2
  · cases hc : L.cr with
    | false => exact trk_n2 L x b W0 w hL hT hx hp h1 hk2 hc
    | true =>
      cases hA : kw x kATOMIC with
      | true =>
        cases hB : kw L.prev kBEGIN with
        | true => exact trk_pg_AB L x b W0 w hL hT hx hp h1 hk2 hc hA hB
        | false =>
          by_cases hd : 0 < L.depth
          · cases hC : kw x kCASE with
            | true => exact trk_pg_AbdC L x b W0 w hL hT hx hp h1 hk2 hc hA hB hC hd
            | false =>
              cases hE : kw x kEND with
              | true => exact trk_pg_AbdcE L x b W0 w hL hT hx hp h1 hk2 hc hA hB hC hE hd
              | false => exact trk_pg_Abdce L x b W0 w hL hT hx hp h1 hk2 hc hA hB hC hE hd
          · exact trk_pg_Abn L x b W0 w hL hT hx hp h1 hk2 hc hA hB hd
      | false =>
        by_cases hd : 0 < L.depth
        · cases hC : kw x kCASE with
          | true => exact trk_pg_adC L x b W0 w hL hT hx hp h1 hk2 hc hA hC hd
          | false =>
            cases hE : kw x kEND with
            | true => exact trk_pg_adcE L x b W0 w hL hT hx hp h1 hk2 hc hA hC hE hd
            | false => exact trk_pg_adce L x b W0 w hL hT hx hp h1 hk2 hc hA hC hE hd
        · exact trk_pg_an L x b W0 w hL hT hx hp h1 hk2 hc hA hd
  by_cases hk3 : L.kind = 3
  · cases hc : L.cr with
    | true =>
      by_cases h8 : wrap64 (L.n + 1) ≤ 8
      · cases hb : L.body with
        | true => exact trk_mc_b L x b W0 w hL hT hx hp h1 hk3 hc h8 hb
        | false =>
          cases k0 : kw x kPROCEDURE with
          | true => exact trk_mc_0 L x b W0 w hL hT hx hp h1 hk3 hc h8 hb k0
          | false =>
            cases k1 : kw x kFUNCTION with
            | true => exact trk_mc_1 L x b W0 w hL hT hx hp h1 hk3 hc h8 hb k0 k1
            | false =>
              cases k2 : kw x kTRIGGER with
              | true => exact trk_mc_2 L x b W0 w hL hT hx hp h1 hk3 hc h8 hb k0 k1 k2
              | false =>
                cases k3 : kw x kEVENT with
                | true => exact trk_mc_3 L x b W0 w hL hT hx hp h1 hk3 hc h8 hb k0 k1 k2 k3
                | false =>
                  cases k4 : kw x kPACKAGE with
                  | true => exact trk_mc_4 L x b W0 w hL hT hx hp h1 hk3 hc h8 hb k0 k1 k2 k3 k4
                  | false => exact trk_mc_5 L x b W0 w hL hT hx hp h1 hk3 hc h8 hb k0 k1 k2 k3 k4
      · cases hbe : L.be with
        | true => exact trk_n3t L x b W0 w hL hT hx hp h1 hk3 hc h8 hbe
        | false => exact trk_n3f L x b W0 w hL hT hx hp h1 hk3 hc h8 hbe
    | false =>
      cases hbe : L.be with
      | false => exact trk_n4f L x b W0 w hL hT hx hp h1 hk3 hc hbe
      | true =>
        by_cases h2 : wrap64 (L.n + 1) = 2
        · exact trk_mb L x b W0 w hL hT hx hp h1 hk3 (by simp [hc]) hbe h2
        · exact trk_n4t L x b W0 w hL hT hx hp h1 hk3 hc hbe h2
  · exact trk_n1 L x b W0 w hL hT hx hp h1 hk2 hk3
end Go.Proofs.Qxb6603871aDoor
