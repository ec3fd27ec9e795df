import Derived.PlainAid
set_option linter.unusedVariables false
set_option linter.unusedSimpArgs false
namespace Go.Proofs.Qxb6603394aDoor

/-- A glob (bytes P, length n) against a text (bytes Q, length m): S says where a segment may open, M what a set answers. -/
structure Gl where
  n : Nat
  m : Nat
  P : Nat → Int
  Q : Nat → Int
  S : Nat → Bool
  M : Nat → Int → Bool × Int × Bool
  b : Bool

namespace Gl

/-- What is asked of M: a set that is well formed takes at least one byte, within the glob; and neither hangs on the byte asked about. -/
structure Ok (G : Gl) : Prop where
  wid : ∀ i c, i < G.n → (G.M i c).2.2 = true → 1 ≤ (G.M i c).2.1 ∧ i + (G.M i c).2.1.toNat ≤ G.n
  same : ∀ i c c', (G.M i c).2 = (G.M i c').2

/-- Where the run of stars from i on ends. -/
def reF (G : Gl) : Nat → Nat → Nat
  | 0, i => i
  | f + 1, i => if i < G.n ∧ G.P i = 42 then reF G f (i + 1) else i
def re (G : Gl) (i : Nat) : Nat := reF G (G.n - i) i

theorem reF_unique (G : Gl) : ∀ (f i k : Nat), G.n - i ≤ f → i ≤ k → k ≤ G.n → (∀ x, i ≤ x → x < k → G.P x = 42) → (k = G.n ∨ G.P k ≠ 42) → reF G f i = k
  | 0, i, k, hf, hik, hk, _, _ => by simp only [reF]; omega
  | f + 1, i, k, hf, hik, hk, hall, hend => by
    simp only [reF]
    by_cases e : i = k
    · subst e
      rw [if_neg]
      rintro ⟨h1, h2⟩
      rcases hend with h | h
      · omega
      · exact h h2
    · rw [if_pos ⟨by omega, hall i (by omega) (by omega)⟩]
      exact reF_unique G f (i + 1) k (by omega) (by omega) hk (fun x h1 h2 => hall x (by omega) h2) hend
theorem re_unique (G : Gl) {i k : Nat} (hik : i ≤ k) (hk : k ≤ G.n) (hall : ∀ x, i ≤ x → x < k → G.P x = 42) (hend : k = G.n ∨ G.P k ≠ 42) : re G i = k :=
  reF_unique G _ i k (Nat.le_refl _) hik hk hall hend
theorem reF_spec (G : Gl) : ∀ (f i : Nat), G.n - i ≤ f → i ≤ G.n → i ≤ reF G f i ∧ reF G f i ≤ G.n ∧ (∀ x, i ≤ x → x < reF G f i → G.P x = 42) ∧ (reF G f i = G.n ∨ G.P (reF G f i) ≠ 42)
  | 0, i, hf, hi => by simp only [reF]; exact ⟨Nat.le_refl _, hi, fun x h1 h2 => by omega, .inl (by omega)⟩
  | f + 1, i, hf, hi => by
    simp only [reF]
    by_cases h : i < G.n ∧ G.P i = 42
    · rw [if_pos h]
      obtain ⟨a, b, c, d⟩ := reF_spec G f (i + 1) (by omega) (by omega)
      exact ⟨by omega, b, fun x h1 h2 => by
        by_cases e : x = i
        · rw [e]; exact h.2
        · exact c x (by omega) h2, d⟩
    · rw [if_neg h]
      refine ⟨Nat.le_refl _, hi, fun x h1 h2 => by omega, ?_⟩
      by_cases e : i = G.n
      · exact .inl e
      · exact .inr fun h2 => h ⟨by omega, h2⟩
theorem re_spec (G : Gl) {i : Nat} (hi : i ≤ G.n) : i ≤ re G i ∧ re G i ≤ G.n ∧ (∀ x, i ≤ x → x < re G i → G.P x = 42) ∧ (re G i = G.n ∨ G.P (re G i) ≠ 42) :=
  reF_spec G _ i (Nat.le_refl _) hi
theorem re_gt (G : Gl) {i : Nat} (hi : i < G.n) (h : G.P i = 42) : i < re G i := by
  obtain ⟨a, b, c, d⟩ := re_spec G (Nat.le_of_lt hi)
  by_cases e : re G i = i
  · rw [e] at d
    rcases d with d | d
    · omega
    · exact absurd h d
  · omega

/-- One token that is no star, at i, against the byte at j: where the glob goes on. -/
def stp (G : Gl) (i j : Nat) : Option Nat :=
  if G.m ≤ j then none
  else if G.P i = 63 then (if G.b = true ∧ G.Q j = 47 then none else some (i + 1))
  else if G.P i = 91 then (if (G.M i (G.Q j)).2.2 = true ∧ (G.M i (G.Q j)).1 = true ∧ ¬ (G.b = true ∧ G.Q j = 47) then some (i + (G.M i (G.Q j)).2.1.toNat) else none)
  else if G.P i = 92 then (if i + 1 < G.n ∧ G.Q j = G.P (i + 1) then some (i + 2) else none)
  else if G.Q j = G.P i then some (i + 1) else none

theorem stp_lt {G : Gl} (hG : G.Ok) {i j x : Nat} (hi : i < G.n) (h : stp G i j = some x) : i < x ∧ x ≤ G.n ∧ j < G.m := by
  unfold stp at h
  split at h
  · cases h
  · rename_i hj
    split at h
    · split at h
      · cases h
      · cases h; omega
    · split at h
      · split at h
        · rename_i hh
          cases h
          have := hG.wid i (G.Q j) hi hh.1
          omega
        · cases h
      · split at h
        · split at h
          · cases h; omega
          · cases h
        · split at h
          · cases h; omega
          · cases h
theorem stp_next {G : Gl} (hG : G.Ok) {i j j' x x' : Nat} (h : stp G i j = some x) (h' : stp G i j' = some x') : x = x' := by
  unfold stp at h h'
  split at h
  · cases h
  · split at h'
    · cases h'
    · split at h
      · rw [if_pos ‹_›] at h'
        split at h
        · cases h
        · split at h'
          · cases h'
          · cases h; cases h'; rfl
      · rw [if_neg ‹_›] at h'
        split at h
        · rw [if_pos ‹_›] at h'
          split at h
          · split at h'
            · cases h; cases h'
              rw [hG.same i (G.Q j) (G.Q j')]
            · cases h'
          · cases h
        · rw [if_neg ‹_›] at h'
          split at h
          · rw [if_pos ‹_›] at h'
            split at h
            · split at h'
              · cases h; cases h'; rfl
              · cases h'
            · cases h
          · rw [if_neg ‹_›] at h'
            split at h
            · split at h'
              · cases h; cases h'; rfl
              · cases h'
            · cases h
theorem stp_slash {G : Gl} (hb : G.b = true) {i j j' x x' : Nat} (h : stp G i j = some x) (h' : stp G i j' = some x') (hq : G.Q j' = 47) : G.Q j = 47 := by
  unfold stp at h h'
  split at h
  · cases h
  · split at h'
    · cases h'
    · split at h
      · rw [if_pos ‹_›, if_pos ⟨hb, hq⟩] at h'; cases h'
      · rw [if_neg ‹_›] at h'
        split at h
        · rw [if_pos ‹_›] at h'
          split at h'
          · rename_i hh; exact absurd ⟨hb, hq⟩ hh.2.2
          · cases h'
        · rw [if_neg ‹_›] at h'
          split at h
          · rw [if_pos ‹_›] at h'
            split at h
            · split at h'
              · rename_i h1 h2; rw [h1.2, ← h2.2, hq]
              · cases h'
            · cases h
          · rw [if_neg ‹_›] at h'
            split at h
            · split at h'
              · rename_i h1 h2; rw [h1, ← h2, hq]
              · cases h'
            · cases h
/-- A token whose last byte is '/' takes a '/'. -/
theorem stp_last {G : Gl} {i : Nat} (hG : G.Ok) (hset : ∀ c, (G.M i c).2.2 = true → G.P (i + (G.M i c).2.1.toNat - 1) = 93) {j x : Nat} (hi : i < G.n) (h : stp G i j = some x) (hl : G.P (x - 1) = 47) : G.Q j = 47 := by
  unfold stp at h
  split at h
  · cases h
  · split at h
    · split at h
      · cases h
      · cases h
        rename_i h63 _
        simp at hl; omega
    · split at h
      · split at h
        · rename_i hh
          cases h
          have := hset _ hh.1
          omega
        · cases h
      · split at h
        · split at h
          · rename_i hh
            cases h
            simp at hl
            rw [hh.2, hl]
          · cases h
        · split at h
          · rename_i hh
            cases h
            simp at hl
            rw [hh, hl]
          · cases h

def isGlob (G : Gl) (i k : Nat) : Bool := G.b && decide (1 < k - i) && G.S i && (decide (k = G.n) || decide (G.P k = 47))

/-- The table. -/
def Tf (G : Gl) : Nat → Nat → Nat → Bool
  | 0, _, _ => false
  | f + 1, i, j =>
    if G.n ≤ i then decide (j = G.m)
    else if G.P i = 42 then
      if isGlob G i (re G i) = true then
        (if re G i = G.n then true else Tf G f (re G i + 1) j || (List.range (G.m - j)).any fun d => decide (G.Q (j + d) = 47) && Tf G f (re G i + 1) (j + d + 1))
      else Tf G f (re G i) j || (decide (j < G.m) && !(G.b && decide (G.Q j = 47)) && Tf G f i (j + 1))
    else match stp G i j with
      | none => false
      | some x => Tf G f x (j + 1)
def T (G : Gl) (i j : Nat) : Bool := Tf G (G.n - i + (G.m - j) + 1) i j

theorem Tf_fuel {G : Gl} (hG : G.Ok) : ∀ (f g i j : Nat), G.n - i + (G.m - j) < f → G.n - i + (G.m - j) < g → Tf G f i j = Tf G g i j
  | 0, _, i, j, h, _ => by omega
  | f + 1, 0, i, j, _, h => by omega
  | f + 1, g + 1, i, j, hf, hg => by
    simp only [Tf]
    by_cases h1 : G.n ≤ i
    · rw [if_pos h1, if_pos h1]
    · rw [if_neg h1, if_neg h1]
      by_cases h2 : G.P i = 42
      · rw [if_pos h2, if_pos h2]
        have hgt := re_gt G (by omega) h2
        have hle := (re_spec G (i := i) (by omega)).2.1
        by_cases h3 : isGlob G i (re G i) = true
        · rw [if_pos h3, if_pos h3]
          by_cases h4 : re G i = G.n
          · rw [if_pos h4, if_pos h4]
          · rw [if_neg h4, if_neg h4, Tf_fuel hG f g (re G i + 1) j (by omega) (by omega)]
            congr 2
            funext d
            rw [Tf_fuel hG f g (re G i + 1) (j + d + 1) (by omega) (by omega)]
        · rw [if_neg h3, if_neg h3, Tf_fuel hG f g (re G i) j (by omega) (by omega)]
          by_cases h5 : j < G.m
          · rw [Tf_fuel hG f g i (j + 1) (by omega) (by omega)]
          · simp [h5]
      · rw [if_neg h2, if_neg h2]
        cases h6 : stp G i j with
        | none => rfl
        | some x =>
          have := stp_lt hG (by omega) h6
          exact Tf_fuel hG f g x (j + 1) (by omega) (by omega)

theorem Tf_eq (G : Gl) (f i j : Nat) : Tf G (f + 1) i j =
    if G.n ≤ i then decide (j = G.m)
    else if G.P i = 42 then
      if isGlob G i (re G i) = true then
        (if re G i = G.n then true else Tf G f (re G i + 1) j || (List.range (G.m - j)).any fun d => decide (G.Q (j + d) = 47) && Tf G f (re G i + 1) (j + d + 1))
      else Tf G f (re G i) j || (decide (j < G.m) && !(G.b && decide (G.Q j = 47)) && Tf G f i (j + 1))
    else match stp G i j with
      | none => false
      | some x => Tf G f x (j + 1) := rfl
theorem T_eq (G : Gl) (i j : Nat) : T G i j = Tf G (G.n - i + (G.m - j) + 1) i j := rfl
theorem T_of {G : Gl} (hG : G.Ok) {f i j : Nat} (h : G.n - i + (G.m - j) < f) : Tf G f i j = T G i j := Tf_fuel hG _ _ i j h (by omega)
theorem T_end {G : Gl} {i j : Nat} (h : G.n ≤ i) : T G i j = decide (j = G.m) := by
  rw [T_eq, Tf_eq, if_pos h]
theorem T_tok {G : Gl} (hG : G.Ok) {i j : Nat} (h : i < G.n) (h2 : G.P i ≠ 42) : T G i j = match stp G i j with | none => false | some x => T G x (j + 1) := by
  rw [T_eq, Tf_eq, if_neg (by omega), if_neg h2]
  cases h6 : stp G i j with
  | none => rfl
  | some x =>
    have := stp_lt hG h h6
    exact T_of hG (by omega)
theorem T_star {G : Gl} (hG : G.Ok) {i j : Nat} (h : i < G.n) (h2 : G.P i = 42) (h3 : isGlob G i (re G i) = false) :
    T G i j = (T G (re G i) j || (decide (j < G.m) && !(G.b && decide (G.Q j = 47)) && T G i (j + 1))) := by
  have hgt := re_gt G h h2
  have hle := (re_spec G (i := i) (by omega)).2.1
  rw [T_eq, Tf_eq, if_neg (by omega), if_pos h2, if_neg (by simp [h3])]
  rw [T_of hG (show G.n - re G i + (G.m - j) < G.n - i + (G.m - j) by omega)]
  by_cases h5 : j < G.m
  · rw [T_of hG (show G.n - i + (G.m - (j + 1)) < G.n - i + (G.m - j) by omega)]
  · simp [h5]
theorem T_glob_end {G : Gl} {i j : Nat} (h : i < G.n) (h2 : G.P i = 42) (h3 : isGlob G i (re G i) = true) (h4 : re G i = G.n) : T G i j = true := by
  rw [T_eq, Tf_eq, if_neg (by omega), if_pos h2, if_pos h3, if_pos h4]
theorem T_glob {G : Gl} (hG : G.Ok) {i j : Nat} (h : i < G.n) (h2 : G.P i = 42) (h3 : isGlob G i (re G i) = true) (h4 : re G i ≠ G.n) :
    T G i j = (T G (re G i + 1) j || (List.range (G.m - j)).any fun d => decide (G.Q (j + d) = 47) && T G (re G i + 1) (j + d + 1)) := by
  have hgt := re_gt G h h2
  have hle := (re_spec G (i := i) (by omega)).2.1
  rw [T_eq, Tf_eq, if_neg (by omega), if_pos h2, if_pos h3, if_neg h4]
  rw [T_of hG (show G.n - (re G i + 1) + (G.m - j) < G.n - i + (G.m - j) by omega)]
  congr 2
  funext d
  rw [T_of hG (show G.n - (re G i + 1) + (G.m - (j + d + 1)) < G.n - i + (G.m - j) by omega)]

/-- No '/' in the text from a up to e. -/
def NoSl (G : Gl) (a e : Nat) : Prop := G.b = true → ∀ x, a ≤ x → x < e → G.Q x ≠ 47
/-- The glob from st on matches somewhere that a star at a reaches. -/
def E (G : Gl) (st a : Nat) : Prop := ∃ e, a ≤ e ∧ e ≤ G.m ∧ NoSl G a e ∧ T G st e = true

theorem T_star_E {G : Gl} (hG : G.Ok) {i : Nat} (h : i < G.n) (h2 : G.P i = 42) (h3 : isGlob G i (re G i) = false) : ∀ (d j : Nat), G.m - j = d → j ≤ G.m → (T G i j = true ↔ E G (re G i) j)
  | 0, j, hd, hj => by
    rw [T_star hG h h2 h3]
    have e : j = G.m := by omega
    constructor
    · intro ht
      rw [show decide (j < G.m) = false by simp; omega] at ht
      simp at ht
      exact ⟨j, Nat.le_refl _, hj, fun _ x h1 h2 => by omega, ht⟩
    · rintro ⟨y, h4, h5, h6, h7⟩
      have : y = j := by omega
      subst this
      simp [h7]
  | d + 1, j, hd, hj => by
    rw [T_star hG h h2 h3]
    have ih := T_star_E hG h h2 h3 d (j + 1) (by omega) (by omega)
    constructor
    · intro ht
      rw [Bool.or_eq_true] at ht
      rcases ht with ht | ht
      · exact ⟨j, Nat.le_refl _, hj, fun _ x h1 h2 => by omega, ht⟩
      · rw [Bool.and_eq_true, Bool.and_eq_true] at ht
        obtain ⟨y, h4, h5, h6, h7⟩ := ih.1 ht.2
        refine ⟨y, by omega, h5, fun hb x h8 h9 => ?_, h7⟩
        by_cases e : x = j
        · subst e
          have := ht.1.2
          rw [hb] at this
          simpa using this
        · exact h6 hb x (by omega) h9
    · rintro ⟨y, h4, h5, h6, h7⟩
      by_cases e : y = j
      · subst e; simp [h7]
      · have h8 : T G i (j + 1) = true := ih.2 ⟨y, by omega, h5, fun hb x h1 h2 => h6 hb x (by omega) h2, h7⟩
        rw [h8]
        have h9 : (G.b && decide (G.Q j = 47)) = false := by
          by_cases hb : G.b = true
          · have := h6 hb j (Nat.le_refl _) (by omega)
            simp [this]
          · simp [hb]
        simp [h9]; right; omega

/-- k tokens, none of them a star, from (i, a) on. -/
def chain (G : Gl) (i a : Nat) : Nat → Option Nat
  | 0 => some i
  | k + 1 => match chain G i a k with
    | none => none
    | some x => if x < G.n ∧ G.P x ≠ 42 then stp G x (a + k) else none
theorem chain_succ {G : Gl} {i a k x y : Nat} (h : chain G i a k = some x) (hx : x < G.n) (h42 : G.P x ≠ 42) (hs : stp G x (a + k) = some y) : chain G i a (k + 1) = some y := by
  simp only [chain, h]; rw [if_pos ⟨hx, h42⟩]; exact hs
theorem chain_inv {G : Gl} {i a k y : Nat} (h : chain G i a (k + 1) = some y) : ∃ x, chain G i a k = some x ∧ x < G.n ∧ G.P x ≠ 42 ∧ stp G x (a + k) = some y := by
  simp only [chain] at h
  split at h
  · cases h
  · rename_i x hx
    split at h
    · rename_i hh; exact ⟨x, hx, hh.1, hh.2, h⟩
    · cases h
theorem chain_T {G : Gl} (hG : G.Ok) {i a : Nat} : ∀ (k x : Nat), chain G i a k = some x → T G i a = T G x (a + k)
  | 0, x, h => by simp only [chain, Option.some.injEq] at h; subst h; rfl
  | k + 1, y, h => by
    obtain ⟨x, hx, h1, h2, h3⟩ := chain_inv h
    rw [chain_T hG k x hx, T_tok hG h1 h2, h3]
    rfl
/-- THE GREEDY STEP: a match from further on runs beside the one that was tried. -/
theorem chain_beside {G : Gl} (hG : G.Ok) {i a e : Nat} (hae : a ≤ e) (hem : e ≤ G.m) (hsl : NoSl G a e) (ht : T G i e = true) : ∀ (k x : Nat), chain G i a k = some x → T G x (e + k) = true ∧ NoSl G (a + k) (e + k) ∧ e + k ≤ G.m
  | 0, x, h => by simp only [chain, Option.some.injEq] at h; subst h; exact ⟨ht, hsl, hem⟩
  | k + 1, y, h => by
    obtain ⟨x, hx, h1, h2, h3⟩ := chain_inv h
    obtain ⟨t1, n1, m1⟩ := chain_beside hG hae hem hsl ht k x hx
    rw [T_tok hG h1 h2] at t1
    cases h4 : stp G x (e + k) with
    | none => rw [h4] at t1; cases t1
    | some z =>
      rw [h4] at t1
      obtain rfl := stp_next hG h3 h4
      refine ⟨t1, fun hb q h5 h6 hq => ?_, by have := stp_lt hG h1 h4; omega⟩
      by_cases e1 : q = e + k
      · subst e1
        have := stp_slash hb h3 h4 hq
        exact n1 hb (a + k) (Nat.le_refl _) (by omega) this
      · exact n1 hb q (by omega) (by omega) hq

/-- A star that is no segment: what is told from the older star is told from the new one. -/
theorem E_star {G : Gl} (hG : G.Ok) {st a k px : Nat} (hc : chain G st a k = some px) (hm : a + k ≤ G.m) (h : px < G.n) (h2 : G.P px = 42) (h3 : isGlob G px (re G px) = false) :
    E G st a ↔ E G (re G px) (a + k) := by
  rw [← T_star_E hG h h2 h3 _ (a + k) rfl hm]
  constructor
  · rintro ⟨e, h4, h5, h6, h7⟩
    obtain ⟨t1, n1, hek⟩ := chain_beside hG h4 h5 h6 h7 k px hc
    obtain ⟨y, y1, y2, y3, y4⟩ := (T_star_E hG h h2 h3 _ (e + k) rfl hek).1 t1
    refine (T_star_E hG h h2 h3 _ (a + k) rfl hm).2 ⟨y, by omega, y2, fun hb x x1 x2 => ?_, y4⟩
    by_cases hx : x < e + k
    · exact n1 hb x x1 hx
    · exact y3 hb x (by omega) x2
  · intro ht
    rw [← chain_T hG k px hc] at ht
    exact ⟨a, Nat.le_refl _, by omega, fun _ x h1 h2 => by omega, ht⟩

/-- A segment '**': behind a '/' there is one place alone. -/
theorem E_glob {G : Gl} (hG : G.Ok) (hset : ∀ i c, i < G.n → (G.M i c).2.2 = true → G.P (i + (G.M i c).2.1.toNat - 1) = 93) {st a k px : Nat} (hb : G.b = true) (hc : chain G st a k = some px) (hm : a + k ≤ G.m)
    (hs : G.P (px - 1) = 47) (hst : G.P (st - 1) = 42) : E G st a ↔ T G px (a + k) = true := by
  constructor
  · rintro ⟨e, h4, h5, h6, h7⟩
    obtain ⟨t1, n1, hek⟩ := chain_beside hG h4 h5 h6 h7 k px hc
    cases k with
    | zero =>
      simp only [chain, Option.some.injEq] at hc
      subst hc
      omega
    | succ k =>
      obtain ⟨x, hx, x1, x2, x3⟩ := chain_inv hc
      obtain ⟨t2, n2, _⟩ := chain_beside hG h4 h5 h6 h7 k x hx
      have hq := stp_last hG (fun c hcc => hset x c x1 hcc) x1 x3 hs
      by_cases e1 : e = a
      · subst e1; exact t1
      · exact absurd hq (n2 hb (a + k) (Nat.le_refl _) (by omega))
  · intro ht
    rw [← chain_T hG k px hc] at ht
    exact ⟨a, Nat.le_refl _, by omega, fun _ x h1 h2 => by omega, ht⟩

/-- A set that is refused. -/
theorem E_bad {G : Gl} (hG : G.Ok) {st a k px : Nat} (hc : chain G st a k = some px) (h : px < G.n) (h2 : G.P px = 91) (c : Int) (hno : (G.M px c).2.2 = false) : ¬ E G st a := by
  rintro ⟨e, h4, h5, h6, h7⟩
  obtain ⟨t1, n1, hek⟩ := chain_beside hG h4 h5 h6 h7 k px hc
  rw [T_tok hG h (by omega)] at t1
  have : stp G px (e + k) = none := by
    unfold stp
    split
    · rfl
    · rw [if_neg (show ¬ G.P px = 63 by omega), if_neg]
      rintro ⟨h8, _⟩
      rw [hG.same px (G.Q (e + k)) c, hno] at h8
      cases h8
  rw [this] at t1
  cases t1

/-- The star takes one byte more. -/
theorem E_next {G : Gl} {st a : Nat} (hno : T G st a = false) (ha : a < G.m) (hs : ¬ (G.b = true ∧ G.Q a = 47)) : E G st a ↔ E G st (a + 1) := by
  constructor
  · rintro ⟨e, h4, h5, h6, h7⟩
    have : e ≠ a := fun h => by subst h; rw [hno] at h7; cases h7
    exact ⟨e, by omega, h5, fun hb x h1 h2 => h6 hb x (by omega) h2, h7⟩
  · rintro ⟨e, h4, h5, h6, h7⟩
    refine ⟨e, by omega, h5, fun hb x h1 h2 => ?_, h7⟩
    by_cases e1 : x = a
    · subst e1; exact fun h => hs ⟨hb, h⟩
    · exact h6 hb x (by omega) h2
/-- It cannot. -/
theorem E_stuck {G : Gl} {st a : Nat} (hno : T G st a = false) (hs : a = G.m ∨ (G.b = true ∧ G.Q a = 47)) : ¬ E G st a := by
  rintro ⟨e, h4, h5, h6, h7⟩
  have : e ≠ a := fun h => by subst h; rw [hno] at h7; cases h7
  rcases hs with h | h
  · omega
  · exact h6 h.1 a (Nat.le_refl _) (by omega) h.2

/-- The rest of a glob against the rest of a text. -/
def shift (G : Gl) (a x : Nat) : Gl := { n := G.n - a, m := G.m - x, P := fun i => G.P (i + a), Q := fun j => G.Q (j + x), S := fun i => G.S (i + a), M := fun i c => G.M (i + a) c, b := G.b }
theorem re_shift (G : Gl) (a x i : Nat) (h : i + a ≤ G.n) : re (shift G a x) i + a = re G (i + a) := by
  obtain ⟨h1, h2, h3, h4⟩ := re_spec G h
  have := re_unique (shift G a x) (i := i) (k := re G (i + a) - a) (by omega) (by simp only [shift]; omega) (fun y y1 y2 => h3 (y + a) (by omega) (by omega))
    (by rcases h4 with h4 | h4
        · left; simp only [shift]; omega
        · right; simp only [shift]; rw [Nat.sub_add_cancel (by omega)]; exact h4)
  omega
theorem stp_shift (G : Gl) (a x i j : Nat) (hx : x ≤ G.m) : (stp (shift G a x) i j).map (· + a) = stp G (i + a) (j + x) := by
  have e1 : (G.m - x ≤ j) = (G.m ≤ j + x) := by apply propext; omega
  have e2 : (i + 1 < G.n - a) = (i + a + 1 < G.n) := by apply propext; omega
  unfold stp shift
  simp only [e1, e2, show i + 1 + a = i + a + 1 by omega]
  split
  · rfl
  · split
    · split
      · rfl
      · simp; omega
    · split
      · split
        · simp; omega
        · rfl
      · split
        · split
          · simp; omega
          · rfl
        · split
          · simp; omega
          · rfl
theorem isGlob_shift (G : Gl) (a x i k : Nat) (hk : a ≤ k) (hkn : k ≤ G.n) : isGlob (shift G a x) i (k - a) = isGlob G (i + a) k := by
  unfold isGlob shift
  simp only [Nat.sub_add_cancel hk]
  rw [show decide (1 < k - a - i) = decide (1 < k - (i + a)) by congr 1; apply propext; omega, show decide (k - a = G.n - a) = decide (k = G.n) by congr 1; apply propext; omega]
theorem Tf_shift (G : Gl) (a x : Nat) (ha : a ≤ G.n) (hx : x ≤ G.m) : ∀ (f i j : Nat), Tf (shift G a x) f i j = Tf G f (i + a) (j + x)
  | 0, _, _ => rfl
  | f + 1, i, j => by
    rw [Tf_eq, Tf_eq]
    have n1 : (shift G a x).n = G.n - a := rfl
    have n2 : (shift G a x).m = G.m - x := rfl
    by_cases h1 : G.n ≤ i + a
    · rw [if_pos h1, if_pos (by rw [n1]; omega), n2]
      congr 1; apply propext; omega
    · rw [if_neg h1, if_neg (by rw [n1]; omega)]
      by_cases h2 : G.P (i + a) = 42
      · rw [if_pos h2, if_pos (show (shift G a x).P i = 42 from h2)]
        have hr := re_shift G a x i (by omega)
        have hspec := re_spec G (i := i + a) (by omega)
        have hr' : re (shift G a x) i = re G (i + a) - a := by omega
        rw [show isGlob (shift G a x) i (re (shift G a x) i) = isGlob G (i + a) (re G (i + a)) by rw [hr', isGlob_shift G a x i _ (by omega) (by omega)]]
        by_cases h3 : isGlob G (i + a) (re G (i + a)) = true
        · rw [if_pos h3, if_pos h3]
          by_cases h4 : re G (i + a) = G.n
          · rw [if_pos h4, if_pos (by rw [n1]; omega)]
          · rw [if_neg h4, if_neg (by rw [n1]; omega), Tf_shift G a x ha hx f, n2, show re (shift G a x) i + 1 + a = re G (i + a) + 1 by omega, show G.m - x - j = G.m - (j + x) by omega]
            congr 2
            funext d
            rw [Tf_shift G a x ha hx f, show re (shift G a x) i + 1 + a = re G (i + a) + 1 by omega, show j + d + 1 + x = j + x + d + 1 by omega]
            have : (shift G a x).Q (j + d) = G.Q (j + x + d) := by show G.Q (j + d + x) = _; congr 1; omega
            rw [this]
        · rw [if_neg h3, if_neg h3, Tf_shift G a x ha hx f, Tf_shift G a x ha hx f, hr, n2, show j + 1 + x = j + x + 1 by omega]
          rw [show decide (j < G.m - x) = decide (j + x < G.m) by congr 1; apply propext; omega]
          rfl
      · rw [if_neg h2, if_neg (show ¬ (shift G a x).P i = 42 from h2)]
        have := stp_shift G a x i j hx
        cases h6 : stp (shift G a x) i j with
        | none => rw [h6] at this; rw [← this]; rfl
        | some y =>
          rw [h6] at this
          rw [← this]
          show Tf (shift G a x) f y (j + 1) = Tf G f (y + a) (j + x + 1)
          rw [Tf_shift G a x ha hx f, show j + 1 + x = j + x + 1 by omega]
theorem T_shift (G : Gl) (a x : Nat) (ha : a ≤ G.n) (hx : x ≤ G.m) (i j : Nat) : T (shift G a x) i j = T G (i + a) (j + x) := by
  rw [T_eq, T_eq, Tf_shift G a x ha hx]
  have n1 : (shift G a x).n = G.n - a := rfl
  have n2 : (shift G a x).m = G.m - x := rfl
  rw [n1, n2, show G.n - a - i = G.n - (i + a) by omega, show G.m - x - j = G.m - (j + x) by omega]
end Gl
end Go.Proofs.Qxb6603394aDoor
