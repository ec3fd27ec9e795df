import Derived.Test.Qxb6603394aDoorGlob
import Derived.Test.Qxb6603394aDoorSetp
import Derived.Test.Qxb6603394aDoorEscw
import Derived.Lib.TrimByte
set_option linter.unusedVariables false
set_option linter.unusedSimpArgs false
namespace Go.Proofs.Qxb6603394aDoor
open Go.RowKit Go.PlainAid

theorem bt_ext_all (q : ByteArray) (a i : Nat) (ha : a ≤ q.size) : bt (q.extract a q.size) i = bt q (a + i) := by
  by_cases h : a + i < q.size
  · exact bt_extract q a q.size i h (Nat.le_refl _)
  · rw [bt_end _ (by rw [size_ext q a ha]; omega), bt_end _ (by omega)]
theorem ext_ext (q : ByteArray) (a i : Nat) (ha : a ≤ q.size) : (q.extract a q.size).extract i (q.extract a q.size).size = q.extract (i + a) q.size := by
  by_cases h : i + a ≤ q.size
  · have h1 := size_ext q a ha
    have h2 := size_ext q (i + a) h
    have h3 := size_ext (q.extract a q.size) i (by omega)
    apply eq_of_bt
    · omega
    · intro k hk
      rw [bt_ext_all _ _ _ (by omega), bt_ext_all _ _ _ ha, bt_ext_all _ _ _ h]
      congr 1; omega
  · have h1 := size_ext q a ha
    apply eq_of_bt
    · simp [ByteArray.size_extract]; omega
    · intro k hk
      simp [ByteArray.size_extract] at hk; omega

/-- The glob p against the text s. -/
def gl (p s : ByteArray) (b : Bool) : Gl :=
  { n := p.size, m := s.size, P := bt p, Q := bt s, S := fun i => decide (i = 0) || decide (bt p (i - 1) = 47), M := fun i c => ms (p.extract i p.size) c, b := b }
/-- What the table answers. -/
def W (p s : ByteArray) (b : Bool) : Bool := Gl.T (gl p s b) 0 0

theorem gl_ok (p s : ByteArray) (b : Bool) : (gl p s b).Ok where
  wid i c hi h := by
    have h1 := ms_wid (p.extract i p.size) c h
    have h2 := size_ext p i (Nat.le_of_lt hi)
    have h3 : i < p.size := hi
    show 1 ≤ (ms (p.extract i p.size) c).2.1 ∧ i + (ms (p.extract i p.size) c).2.1.toNat ≤ p.size
    omega
  same i c c' := ms_same _ c c'
theorem gl_set (p s : ByteArray) (b : Bool) (i : Nat) (c : Int) (hi : i < (gl p s b).n) (h : ((gl p s b).M i c).2.2 = true) : (gl p s b).P (i + ((gl p s b).M i c).2.1.toNat - 1) = 93 := by
  have h1 := ms_wid (p.extract i p.size) c h
  have h2 := size_ext p i (Nat.le_of_lt hi)
  have h3 : i < p.size := hi
  show bt p (i + (ms (p.extract i p.size) c).2.1.toNat - 1) = 93
  rw [← h1.2.2, bt_ext_all p i _ (by omega)]
  congr 1
  have : 1 ≤ (ms (p.extract i p.size) c).2.1.toNat := by omega
  omega
theorem gl_shift (p s : ByteArray) (a x : Nat) (h1 : 1 ≤ a) (ha : a ≤ p.size) (hx : x ≤ s.size) (h47 : bt p (a - 1) = 47) : Gl.shift (gl p s true) a x = gl (p.extract a p.size) (s.extract x s.size) true := by
  unfold Gl.shift gl
  congr 1
  · rw [size_ext p a ha]
  · rw [size_ext s x hx]
  · funext i; rw [bt_ext_all p a i ha, Nat.add_comm]
  · funext j; rw [bt_ext_all s x j hx, Nat.add_comm]
  · funext i
    by_cases h : i = 0
    · subst h; simp [h47]
    · rw [bt_ext_all p a (i - 1) ha, show a + (i - 1) = i + a - 1 by omega]
      simp [h]
  · funext i c
    rw [ext_ext p a i ha]
theorem W_rest (p s : ByteArray) (a x : Nat) (h1 : 1 ≤ a) (ha : a ≤ p.size) (hx : x ≤ s.size) (h47 : bt p (a - 1) = 47) : W (p.extract a p.size) (s.extract x s.size) true = Gl.T (gl p s true) a x := by
  unfold W
  rw [← gl_shift p s a x h1 ha hx h47, Gl.T_shift _ a x ha hx]
  simp

/-- The loop's state. -/
def WInv (G : Gl) (i j : Nat) (st se : Value) (g : Nat) : Prop :=
  (st = .int .i64 (-1) ∧ se = .int .i64 0 ∧ Gl.T G 0 0 = Gl.T G i j ∧ g = (G.n + 1) * 1000000 + (G.m - j)) ∨
  ∃ q a k : Nat, st = .int .i64 q ∧ se = .int .i64 a ∧ 1 ≤ q ∧ q ≤ G.n ∧ G.P (q - 1) = 42 ∧ a ≤ G.m ∧ j = a + k ∧ Gl.chain G q a k = some i ∧ (Gl.T G 0 0 = true ↔ Gl.E G q a) ∧ g = (G.n - q) * 1000000 + (G.m - a) * 1000 + (G.m - j)
section
variable {G : Gl} {i j g : Nat} {st se : Value}
theorem WInv.start (G : Gl) : WInv G 0 0 (.int .i64 (-1)) (.int .i64 0) ((G.n + 1) * 1000000 + (G.m - 0)) := .inl ⟨rfl, rfl, rfl, rfl⟩
theorem WInv.tok (hG : G.Ok) (h : WInv G i j st se g) (hi : i < G.n) (h42 : G.P i ≠ 42) {x : Nat} (hs : Gl.stp G i j = some x) : ∃ g', g' < g ∧ WInv G x (j + 1) st se g' := by
  have hj := (Gl.stp_lt hG hi hs).2.2
  rcases h with ⟨rfl, rfl, h1, h2⟩ | ⟨q, a, k, rfl, rfl, h1, h2, h3, h4, h5, h6, h7, h8⟩
  · refine ⟨(G.n + 1) * 1000000 + (G.m - (j + 1)), by omega, .inl ⟨rfl, rfl, ?_, rfl⟩⟩
    rw [h1, Gl.T_tok hG hi h42, hs]
  · subst h5
    exact ⟨(G.n - q) * 1000000 + (G.m - a) * 1000 + (G.m - (a + k + 1)), by omega, .inr ⟨q, a, k + 1, rfl, rfl, h1, h2, h3, h4, by omega, Gl.chain_succ h6 hi h42 hs, h7, rfl⟩⟩
theorem WInv.star (hG : G.Ok) (hm : G.m ≤ 256) (h : WInv G i j st se g) (hi : i < G.n) (hj : j ≤ G.m) (h42 : G.P i = 42) (hg : Gl.isGlob G i (Gl.re G i) = false) :
    ∃ g', g' < g ∧ WInv G (Gl.re G i) j (.int .i64 (Gl.re G i)) (.int .i64 j) g' := by
  have hgt := Gl.re_gt G hi h42
  obtain ⟨_, r1, r2, _⟩ := Gl.re_spec G (Nat.le_of_lt hi)
  have r3 : G.P (Gl.re G i - 1) = 42 := r2 _ (by omega) (by omega)
  rcases h with ⟨rfl, rfl, h1, h2⟩ | ⟨q, a, k, rfl, rfl, h1, h2, h3, h4, h5, h6, h7, h8⟩
  · refine ⟨(G.n - Gl.re G i) * 1000000 + (G.m - j) * 1000 + (G.m - j), by omega, .inr ⟨Gl.re G i, j, 0, rfl, rfl, by omega, r1, r3, hj, by omega, rfl, ?_, rfl⟩⟩
    rw [h1]; exact Gl.T_star_E hG hi h42 hg _ j rfl hj
  · subst h5
    have hq : q ≤ i := by
      clear h7 h8
      have : ∀ (k x : Nat), Gl.chain G q a k = some x → q ≤ x := by
        intro k
        induction k with
        | zero => intro x hx; simp only [Gl.chain, Option.some.injEq] at hx; omega
        | succ k ih =>
          intro y hy
          obtain ⟨x, hx, e1, e2, e3⟩ := Gl.chain_inv hy
          have := ih x hx
          have := Gl.stp_lt hG e1 e3
          omega
      exact this k i h6
    refine ⟨(G.n - Gl.re G i) * 1000000 + (G.m - (a + k)) * 1000 + (G.m - (a + k)), by omega, .inr ⟨Gl.re G i, a + k, 0, rfl, rfl, by omega, r1, r3, hj, by omega, rfl, ?_, rfl⟩⟩
    rw [h7]; exact Gl.E_star hG h6 hj hi h42 hg
theorem eq_of_true_iff {a b : Bool} (h : a = true ↔ b = true) : a = b := by cases a <;> cases b <;> simp_all
theorem WInv.glob (hG : G.Ok) (hset : ∀ i c, i < G.n → (G.M i c).2.2 = true → G.P (i + (G.M i c).2.1.toNat - 1) = 93) (h : WInv G i j st se g) (hb : G.b = true) (hj : j ≤ G.m) (hs : G.P (i - 1) = 47 ∨ i = 0) : Gl.T G 0 0 = Gl.T G i j := by
  rcases h with ⟨rfl, rfl, h1, h2⟩ | ⟨q, a, k, rfl, rfl, h1, h2, h3, h4, h5, h6, h7, h8⟩
  · exact h1
  · subst h5
    have hq : ∀ (k x : Nat), Gl.chain G q a k = some x → q ≤ x := by
      intro k
      induction k with
      | zero => intro x hx; simp only [Gl.chain, Option.some.injEq] at hx; omega
      | succ k ih =>
        intro y hy
        obtain ⟨x, hx, e1, e2, e3⟩ := Gl.chain_inv hy
        have := ih x hx
        have := Gl.stp_lt hG e1 e3
        omega
    have := hq k i h6
    rcases hs with hs | hs
    · exact eq_of_true_iff (h7.trans (Gl.E_glob hG hset hb h6 hj hs h3))
    · omega
theorem WInv.bad (hG : G.Ok) (h : WInv G i j st se g) (hi : i < G.n) (h91 : G.P i = 91) (c : Int) (hno : (G.M i c).2.2 = false) : Gl.T G 0 0 = false := by
  rcases h with ⟨rfl, rfl, h1, h2⟩ | ⟨q, a, k, rfl, rfl, h1, h2, h3, h4, h5, h6, h7, h8⟩
  · rw [h1, Gl.T_tok hG hi (by omega)]
    have : Gl.stp G i j = none := by
      unfold Gl.stp
      by_cases hm : G.m ≤ j
      · rw [if_pos hm]
      · rw [if_neg hm, if_neg (show ¬ G.P i = 63 by omega), if_pos h91, if_neg]
        rintro ⟨h8, _⟩
        rw [hG.same i (G.Q j) c, hno] at h8
        cases h8
    rw [this]
  · cases hT : Gl.T G 0 0 with
    | false => rfl
    | true => exact absurd (h7.1 hT) (Gl.E_bad hG h6 hi h91 c hno)
theorem WInv.fin (hG : G.Ok) (h : WInv G i j st se g) (hi : i = G.n) (hj : j = G.m) : Gl.T G 0 0 = true := by
  have ht : Gl.T G i j = true := by rw [Gl.T_end (by omega), hj]; simp
  rcases h with ⟨rfl, rfl, h1, h2⟩ | ⟨q, a, k, rfl, rfl, h1, h2, h3, h4, h5, h6, h7, h8⟩
  · rw [h1, ht]
  · rw [h7]
    subst h5
    rw [← Gl.chain_T hG k i h6] at ht
    exact ⟨a, Nat.le_refl _, h4, fun _ x h1 h2 => by omega, ht⟩
theorem WInv.miss (hG : G.Ok) (hm : G.m ≤ 256) (h : WInv G i j st se g) (ht : Gl.T G i j = false) :
    (st = .int .i64 (-1) ∧ se = .int .i64 0 ∧ Gl.T G 0 0 = false) ∨
    (∃ q a : Nat, st = .int .i64 q ∧ se = .int .i64 a ∧ q ≤ G.n ∧ a ≤ G.m ∧ (a = G.m ∨ (G.b = true ∧ G.Q a = 47)) ∧ Gl.T G 0 0 = false) ∨
    (∃ q a : Nat, st = .int .i64 q ∧ se = .int .i64 a ∧ q ≤ G.n ∧ a < G.m ∧ ¬ (G.b = true ∧ G.Q a = 47) ∧ ∃ g', g' < g ∧ WInv G q (a + 1) (.int .i64 q) (.int .i64 ((a + 1 : Nat) : Int)) g') := by
  rcases h with ⟨rfl, rfl, h1, h2⟩ | ⟨q, a, k, rfl, rfl, h1, h2, h3, h4, h5, h6, h7, h8⟩
  · exact .inl ⟨rfl, rfl, by rw [h1, ht]⟩
  · subst h5
    have ht2 : Gl.T G q a = false := by rw [Gl.chain_T hG k i h6, ht]
    by_cases hs : a = G.m ∨ (G.b = true ∧ G.Q a = 47)
    · refine .inr (.inl ⟨q, a, rfl, rfl, h2, h4, hs, ?_⟩)
      cases hT : Gl.T G 0 0 with
      | false => rfl
      | true => exact absurd (h7.1 hT) (Gl.E_stuck ht2 hs)
    · have ha : a < G.m := by
        by_cases e : a = G.m
        · exact absurd (.inl e) hs
        · omega
      have hn : ¬ (G.b = true ∧ G.Q a = 47) := fun e => hs (.inr e)
      refine .inr (.inr ⟨q, a, rfl, rfl, h2, ha, hn, (G.n - q) * 1000000 + (G.m - (a + 1)) * 1000 + (G.m - (a + 1)), by omega, .inr ⟨q, a + 1, 0, rfl, rfl, h1, h2, h3, by omega, by omega, rfl, ?_, rfl⟩⟩)
      rw [h7]; exact Gl.E_next ht2 ha hn
end

/-- strings.TrimLeft(.., "*") cuts the run of stars. -/
theorem trim_re (p s : ByteArray) (b : Bool) (i : Nat) (hi : i ≤ p.size) : (Lib.trimLeftB (p.extract i p.size).data.toList 42) = (p.extract (Gl.re (gl p s b) i) p.size).data.toList := by
  have key : ∀ (d i : Nat), p.size - i = d → i ≤ p.size → List.dropWhile (· == (42 : UInt8)) (p.data.toList.drop i) = p.data.toList.drop (Gl.re (gl p s b) i) := by
    intro d
    induction d with
    | zero =>
      intro i h1 h2
      have : Gl.re (gl p s b) i = i := Gl.re_unique _ (Nat.le_refl _) h2 (fun x h3 h4 => by omega) (.inl (by show i = p.size; omega))
      rw [this, List.drop_eq_nil_of_le (by rw [← Lib.size_eq]; omega)]
      rfl
    | succ d ih =>
      intro i h1 h2
      obtain ⟨x, hx1, hx2⟩ := list_bt p i (by omega)
      obtain ⟨hx3, hx4⟩ := List.getElem?_eq_some_iff.1 hx1
      rw [List.drop_eq_getElem_cons hx3, hx4]
      by_cases e : bt p i = 42
      · have hx : x = 42 := UInt8.toNat_inj.1 (by have : (x.toNat : Int) = 42 := by rw [← hx2, e]
                                                  simp; omega)
        rw [List.dropWhile_cons_of_pos (by rw [hx]; rfl), ih (i + 1) (by omega) (by omega)]
        congr 1
        obtain ⟨r0, r1, r2, r3⟩ := Gl.re_spec (gl p s b) (i := i + 1) (by show i + 1 ≤ p.size; omega)
        symm
        exact Gl.re_unique _ (by omega) r1 (fun y h3 h4 => by
          by_cases ey : y = i
          · rw [ey]; exact e
          · exact r2 y (by omega) h4) r3
      · have hx : ¬ x = 42 := fun h => e (by rw [hx2, h]; rfl)
        have : Gl.re (gl p s b) i = i := Gl.re_unique _ (Nat.le_refl _) h2 (fun x h3 h4 => by omega) (.inr e)
        rw [List.dropWhile_cons_of_neg (by simp [hx]), this, List.drop_eq_getElem_cons hx3, hx4]
  have hr : Gl.re (gl p s b) i ≤ p.size := (Gl.re_spec (gl p s b) (i := i) hi).2.1
  unfold Lib.trimLeftB
  rw [← Lib.toList_data, ← Lib.toList_data, Lib.extract_toList, Lib.extract_toList, List.take_of_length_le (by simp [← Lib.size_eq]), List.take_of_length_le (by simp [← Lib.size_eq])]
  exact key _ i rfl hi
end Go.Proofs.Qxb6603394aDoor
