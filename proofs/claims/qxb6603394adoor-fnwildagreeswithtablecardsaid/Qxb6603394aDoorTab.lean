import Derived.Test.Qxb6603394aDoorTabp
import Derived.Test.Qxb6603394aDoorCells
import Derived.Deep.DeepCutAuto
set_option linter.unusedVariables false
set_option linter.unusedSimpArgs false
namespace Go.Proofs.Qxb6603394aDoor
open Go.RowKit Go.PlainAid

set_option maxRecDepth 100000 in
set_option maxHeartbeats 4000000 in
theorem table_any (p s : ByteArray) (b : Bool) (w : World) (hp : p.size ≤ 256) (hs : s.size ≤ 256) :
    Calls Tryd.prog 10 #[.string p, .string s, .bool b] w fun e w' => e = .returned (.bool (W p s b)) ∧ Below w.heap.size w w' := by
  obtain ⟨TB, HB⟩ : ∃ TB : Nat → Nat → Bool, Hid (∀ k x, TB k x = Gl.T (gl p s b) k x) := ⟨fun k x => Gl.T (gl p s b) k x, fun _ _ => rfl⟩
  have HW : Hid (TB 0 0 = W p s b) := HB.out 0 0
  obtain ⟨i29, hi29, hz0, hz1, hz2⟩ := info_parts Tryd.info29
  obtain ⟨i4, hi4, hy0, hy1, hy2⟩ := info_parts Tryd.info4
  go_enter Tryd.func10, Tryd.ntmps10
  go_wp2_with (first
    | (at_make; refine wpList_make_full _ rfl _ _ 28 rfl w.heap.size 29 i29 (.slice none 0 0) 1 Tryd.underlying28 hi29 hz0 hz1 .i64 .i64 _ _ (p.size + 1) rfl rfl (by omega) (by omega) (by rw [hz2]; omega) (by unfold maxLen; omega) (Nat.le_refl _) ?_; intro w1 hown1 hgrow1)
    | go_in)
  have hT0 : Tab w w1 (fun _ => 0) p.size s.size TB (p.size + 1) := Tab.start (by simp [size_madeCells]) hown1 hgrow1
  clear hown1 hgrow1
  go_loopg [8] (p.size + 1) (fun g v wr => ∃ rb : Nat → Nat, Tab w wr rb p.size s.size TB g ∧ g ≤ p.size + 1 ∧ ((g = 0 ∧ v = .int .i64 (-1)) ∨ ∃ i : Nat, g = i + 1 ∧ v = .int .i64 i))
  case atStart => exact ⟨_, hT0, Nat.le_refl _, .inr ⟨p.size, rfl, rfl⟩⟩
  case round =>
    clear hT0
    obtain ⟨rb, hT, hg, ⟨rfl, rfl⟩ | ⟨i, rfl, rfl⟩⟩ := hrel
    · have c1 := (hT.row 0 (Nat.zero_le _) (Nat.zero_le _)).1
      have c2 := hT.cell 0 0 (Nat.zero_le _) (Nat.zero_le _) (Nat.zero_le _)
      have HBel := hT.bel
      clear hT
      go_wp2
      go_ret
      exact ⟨ret_bool HW.out, HBel⟩
    · obtain ⟨v0, hv0⟩ := hT.isS i (by omega)
      have hf0 := hT.free i
      have hlt := hT.lt
      go_wp2_with (first
        | (at_make; refine wpList_make_full _ rfl _ _ 29 rfl wr.heap.size 4 i4 (.bool false) 1 Tryd.underlying29 hi4 hy0 hy1 .i64 .i64 _ _ (s.size + 1) rfl rfl (by omega) (by omega) (by rw [hy2]; omega) (by unfold maxLen; omega) (Nat.le_refl _) ?_; intro w2 hown2 hgrow2; have hI0 := TabI.start hT (by omega) (by simp [size_madeCells]) hown2 hgrow2; have hc2 : w2.cell? ⟨w.heap.size, i, none⟩ = some v0 := (World.cell?_of_block (w := wr) (a := ⟨w.heap.size, i, none⟩) (hgrow2.block _ hlt (by simp))).trans hv0; have hf2 : w2.frozen? ⟨w.heap.size, i, none⟩ = false := (World.frozen?_of_block (w := wr) (a := ⟨w.heap.size, i, none⟩) (hgrow2.block _ hlt (by simp))).trans hf0)
        | go_in)
      obtain ⟨rb2, hr2, hI1⟩ : ∃ rb2 : Nat → Nat, rb2 i = wr.heap.size ∧ TabI w (w2.setCell ⟨w.heap.size, i, none⟩ (.slice (some ⟨wr.heap.size, 0, none⟩) (s.size + 1) (s.size + 1))) rb2 p.size s.size TB i (s.size + 1) := ⟨_, by simp, hI0⟩
      have HR2 : Hid (rb2 i = wr.heap.size) := hr2
      clear hI0 hr2 hT hc2 hf2 hv0 hf0
      go_loopg [10] (s.size + 1) (fun g v wi => TabI w wi rb2 p.size s.size TB i g ∧ g ≤ s.size + 1 ∧ ((g = 0 ∧ v = .int .i64 (-1)) ∨ ∃ j : Nat, g = j + 1 ∧ v = .int .i64 j))
      case atStart => exact ⟨hI1, Nat.le_refl _, .inr ⟨s.size, rfl, rfl⟩⟩
      case round =>
        clear hI1
        obtain ⟨hI, hg2, ⟨rfl, rfl⟩ | ⟨j, rfl, rfl⟩⟩ := hrel
        · have hT2 := hI.done
          clear hI
          go_wp2
          go_roundg i
          case measure => omega
          case rel =>
            refine ⟨rb2, hT2, by omega, ?_⟩
            cases i with
            | zero => exact .inl ⟨rfl, by go_num⟩
            | succ i => exact .inr ⟨i, rfl, by go_num⟩
        · obtain ⟨v1, hv1⟩ := hI.rsome j (by omega)
          rw [HR2.out] at hv1
          have hf1 := hI.rfree j
          rw [HR2.out] at hf1
          have HI := mkHid hI
          clear hI
          go_wp2_with (go_at_call 15; refine (cell_any p s b w.heap.size rb2 TB i j _ hp hs (by omega) (by omega) HI.out.dp HB).mono ?_; rintro e w3 ⟨rfl, n3, rfl⟩)
          go_roundg j
          case measure => omega
          case rel =>
            refine ⟨?_, by omega, ?_⟩
            · have := HI.out.step (by omega) (by omega) n3
              rw [HR2.out] at this
              exact this
            · cases j with
              | zero => exact .inl ⟨rfl, by go_num⟩
              | succ j => exact .inr ⟨j, rfl, by go_num⟩
end Go.Proofs.Qxb6603394aDoor
