import Derived.Test.Qxb6603394aDoorCell
set_option linter.unusedVariables false
set_option linter.unusedSimpArgs false
namespace Go.Proofs.Qxb6603394aDoor
open Go.RowKit Go.PlainAid

theorem Tryd.info29 : (Tryd.prog.info? 29).map (fun i => (i.zero, i.size, i.bytes)) = some (some (.slice none 0 0), 1, 24) := by kernel_rfl
theorem Tryd.info4 : (Tryd.prog.info? 4).map (fun i => (i.zero, i.size, i.bytes)) = some (some (.bool false), 1, 1) := by kernel_rfl

/-- The table's memory ahead of a round of the outer loop: the rows from I on are whole. -/
structure Tab (w wr : World) (rb : Nat → Nat) (N M : Nat) (TB : Nat → Nat → Bool) (I : Nat) : Prop where
  bel : Below w.heap.size w wr
  lt : w.heap.size < wr.heap.size
  isS : ∀ k, k ≤ N → ∃ v, wr.cell? ⟨w.heap.size, k, none⟩ = some v
  free : ∀ k, wr.frozen? ⟨w.heap.size, k, none⟩ = false
  row : ∀ k, I ≤ k → k ≤ N → wr.cell? ⟨w.heap.size, k, none⟩ = some (.slice (some ⟨rb k, 0, none⟩) (M + 1) (M + 1)) ∧ w.heap.size < rb k ∧ rb k < wr.heap.size
  cell : ∀ k x, I ≤ k → k ≤ N → x ≤ M → wr.cell? ⟨rb k, x, none⟩ = some (.bool (TB k x))
/-- .. of the inner loop: row i is laid, its cells from J on are whole. -/
structure TabI (w wr : World) (rb : Nat → Nat) (N M : Nat) (TB : Nat → Nat → Bool) (i J : Nat) : Prop where
  bel : Below w.heap.size w wr
  lt : w.heap.size < wr.heap.size
  isS : ∀ k, k ≤ N → ∃ v, wr.cell? ⟨w.heap.size, k, none⟩ = some v
  free : ∀ k, wr.frozen? ⟨w.heap.size, k, none⟩ = false
  row : ∀ k, i ≤ k → k ≤ N → wr.cell? ⟨w.heap.size, k, none⟩ = some (.slice (some ⟨rb k, 0, none⟩) (M + 1) (M + 1)) ∧ w.heap.size < rb k ∧ rb k < wr.heap.size
  cell : ∀ k x, (i < k ∨ (i = k ∧ J ≤ x)) → k ≤ N → x ≤ M → wr.cell? ⟨rb k, x, none⟩ = some (.bool (TB k x))
  rsome : ∀ x, x ≤ M → ∃ v, wr.cell? ⟨rb i, x, none⟩ = some v
  rfree : ∀ x, wr.frozen? ⟨rb i, x, none⟩ = false
  rne : ∀ k, i < k → k ≤ N → rb k ≠ rb i

section
variable {w wr : World} {rb : Nat → Nat} {N M : Nat} {TB : Nat → Nat → Bool} {i J : Nat}
theorem Tab.start {w1 : World} {xs : List Value} (hx : xs.length = N + 1) (hown : w1.ownsRow w.heap.size 29 1 (.slice (some ⟨w.heap.size, 0, none⟩) (N + 1) (N + 1)) (N + 1) xs) (hg : w.grownBy w1 none) : Tab w w1 (fun _ => 0) N M TB (N + 1) where
  bel := (Below.refl _ _).grown hg (Nat.le_refl _) (fun k h => by cases h)
  lt := (hown.lt w.heap.size rfl).2
  isS k hk := ⟨xs[k]'(by omega), by rw [hown.cellAt k (by omega), List.getElem?_eq_getElem (by omega)]⟩
  free k := hown.frozenAt k
  row k h1 h2 := by omega
  cell k x h1 h2 := by omega
theorem TabI.start (h : Tab w wr rb N M TB (i + 1)) (hi : i ≤ N) {w2 : World} {xs : List Value} (hx : xs.length = M + 1)
    (hown : w2.ownsRow wr.heap.size 4 1 (.slice (some ⟨wr.heap.size, 0, none⟩) (M + 1) (M + 1)) (M + 1) xs) (hg : wr.grownBy w2 none) :
    TabI w (w2.setCell ⟨w.heap.size, i, none⟩ (.slice (some ⟨wr.heap.size, 0, none⟩) (M + 1) (M + 1))) (fun k => if k = i then wr.heap.size else rb k) N M TB i (M + 1) := by
  have hlt := h.lt
  have hgb : ∀ b, b < wr.heap.size → w2.heap[b]? = wr.heap[b]? := fun b hb => hg.block b hb (by simp)
  have old : ∀ (b x : Nat), b < wr.heap.size → w2.cell? ⟨b, x, none⟩ = wr.cell? ⟨b, x, none⟩ := fun b x hb => World.cell?_of_block (w := wr) (a := ⟨b, x, none⟩) (hgb b hb)
  have oldf : ∀ (b x : Nat), b < wr.heap.size → w2.frozen? ⟨b, x, none⟩ = wr.frozen? ⟨b, x, none⟩ := fun b x hb => World.frozen?_of_block (w := wr) (a := ⟨b, x, none⟩) (hgb b hb)
  have hsz : (w2.setCell ⟨w.heap.size, i, none⟩ (.slice (some ⟨wr.heap.size, 0, none⟩) (M + 1) (M + 1))).heap.size = w2.heap.size := by simp [World.setCell]
  have hnew : wr.heap.size < w2.heap.size := (hown.lt wr.heap.size rfl).2
  refine ⟨?_, ?_, ?_, ?_, ?_, ?_, ?_, ?_, ?_⟩
  · exact (h.bel.grown hg (Nat.le_of_lt hlt) (fun k e => by cases e)).setCell (Nat.le_refl _) _
  · rw [hsz]; omega
  · intro k hk
    obtain ⟨v, hv⟩ := h.isS k hk
    exact cell?_setCell_some (by rw [old _ _ hlt]; exact hv)
  · intro k
    rw [World.frozen?_setCell, oldf _ _ hlt]; exact h.free k
  · intro k h1 h2
    rw [hsz]
    by_cases e : k = i
    · subst e
      obtain ⟨v, hv⟩ := h.isS k hi
      simp only [if_true]
      exact ⟨World.cell?_setCell_same _ _ _ (by rw [old _ _ hlt]; exact hv), hlt, hnew⟩
    · simp only [e, if_false]
      obtain ⟨r1, r2, r3⟩ := h.row k (by omega) h2
      refine ⟨?_, r2, by omega⟩
      have key : (w2.setCell ⟨w.heap.size, i, none⟩ (.slice (some ⟨wr.heap.size, 0, none⟩) (M + 1) (M + 1))).cell? ⟨w.heap.size, k, none⟩ = w2.cell? ⟨w.heap.size, k, none⟩ := World.cell?_setCell_other _ _ _ _ (by intro e2; cases e2; exact e rfl)
      rw [key, old _ _ hlt]
      exact r1
  · intro k x h1 h2 h3
    have hne : ¬ k = i := by omega
    simp only [hne, if_false]
    obtain ⟨r1, r2, r3⟩ := h.row k (by omega) h2
    have key : (w2.setCell ⟨w.heap.size, i, none⟩ (.slice (some ⟨wr.heap.size, 0, none⟩) (M + 1) (M + 1))).cell? ⟨rb k, x, none⟩ = w2.cell? ⟨rb k, x, none⟩ := World.cell?_setCell_other _ _ _ _ (by intro e2; injection e2 with e3; omega)
    rw [key, old _ _ r3]
    exact h.cell k x (by omega) h2 h3
  · intro x hx2
    simp only [if_true]
    refine cell?_setCell_some (v := xs[x]'(by omega)) ?_
    rw [hown.cellAt x (by omega), List.getElem?_eq_getElem (by omega)]
  · intro x
    simp only [if_true]
    rw [World.frozen?_setCell]; exact hown.frozenAt x
  · intro k h1 h2
    have hne : ¬ k = i := by omega
    simp only [hne, if_true, if_false]
    have := (h.row k (by omega) h2).2.2
    omega
theorem TabI.step {j : Nat} (h : TabI w wr rb N M TB i (j + 1)) (hi : i ≤ N) (hj : j ≤ M) (n : Nat) : TabI w ((wr.setCell ⟨rb i, j, none⟩ (.bool (TB i j))).drewN n) rb N M TB i j := by
  have hri := (h.row i (Nat.le_refl _) hi).2
  have hsz : (wr.setCell ⟨rb i, j, none⟩ (.bool (TB i j))).heap.size = wr.heap.size := by simp [World.setCell]
  refine ⟨?_, ?_, ?_, ?_, ?_, ?_, ?_, ?_, h.rne⟩
  · exact below_drewN (h.bel.setCell (Nat.le_of_lt hri.1) _) n
  · show _ < (wr.setCell ⟨rb i, j, none⟩ (.bool (TB i j))).heap.size
    rw [hsz]; exact h.lt
  · intro k hk
    obtain ⟨v, hv⟩ := h.isS k hk
    exact cell?_setCell_some hv
  · intro k
    show (wr.setCell ⟨rb i, j, none⟩ (.bool (TB i j))).frozen? _ = _
    rw [World.frozen?_setCell]; exact h.free k
  · intro k h1 h2
    obtain ⟨r1, r2, r3⟩ := h.row k h1 h2
    refine ⟨?_, r2, ?_⟩
    · have key : (wr.setCell ⟨rb i, j, none⟩ (.bool (TB i j))).cell? ⟨w.heap.size, k, none⟩ = wr.cell? ⟨w.heap.size, k, none⟩ := World.cell?_setCell_other _ _ _ _ (by intro e2; injection e2 with e3; omega)
      exact key.trans r1
    · show _ < (wr.setCell ⟨rb i, j, none⟩ (.bool (TB i j))).heap.size
      rw [hsz]; exact r3
  · intro k x h1 h2 h3
    show (wr.setCell ⟨rb i, j, none⟩ (.bool (TB i j))).cell? _ = _
    by_cases e : k = i
    · subst e
      by_cases e2 : x = j
      · subst e2
        obtain ⟨v, hv⟩ := h.rsome x h3
        exact World.cell?_setCell_same _ _ _ hv
      · have key : (wr.setCell ⟨rb k, j, none⟩ (.bool (TB k j))).cell? ⟨rb k, x, none⟩ = wr.cell? ⟨rb k, x, none⟩ := World.cell?_setCell_other _ _ _ _ (by intro e3; injection e3 with e4 e5; exact e2 e5.symm)
        exact key.trans (h.cell k x (by omega) h2 h3)
    · have := h.rne k (by omega) h2
      have key : (wr.setCell ⟨rb i, j, none⟩ (.bool (TB i j))).cell? ⟨rb k, x, none⟩ = wr.cell? ⟨rb k, x, none⟩ := World.cell?_setCell_other _ _ _ _ (by intro e3; injection e3 with e4; omega)
      exact key.trans (h.cell k x (by omega) h2 h3)
  · intro x hx
    obtain ⟨v, hv⟩ := h.rsome x hx
    exact cell?_setCell_some hv
  · intro x
    show (wr.setCell ⟨rb i, j, none⟩ (.bool (TB i j))).frozen? _ = _
    rw [World.frozen?_setCell]; exact h.rfree x
theorem TabI.done (h : TabI w wr rb N M TB i 0) : Tab w wr rb N M TB i :=
  ⟨h.bel, h.lt, h.isS, h.free, h.row, fun k x h1 h2 h3 => h.cell k x (by omega) h2 h3⟩
theorem TabI.dp {j : Nat} (h : TabI w wr rb N M TB i (j + 1)) : DpOk wr w.heap.size rb N M TB i j :=
  ⟨fun k h1 h2 => (h.row k h1 h2).1, fun k x h1 h2 h3 => h.cell k x (by omega) h2 h3⟩
end
end Go.Proofs.Qxb6603394aDoor
