import Derived.PlainAid
import Derived.Lib.SplitLaws
import Derived.Lib.IndexLaws
import Derived.Lib.IndexBytes
set_option linter.unusedVariables false
set_option linter.unusedSimpArgs false
namespace Go.Proofs.Qxb6604142aDoor
open Go.RowKit Go.PlainAid

theorem size_ext (q : ByteArray) (a : Nat) (ha : a ≤ q.size) : (q.extract a q.size).size = q.size - a := by simp [ByteArray.size_extract]
theorem ext_ext (q : ByteArray) (a b c : Nat) (hc : c ≤ b - a) (hb : b ≤ q.size) (ha : a ≤ b) : ∀ d, d ≤ c → (q.extract a b).extract d c = q.extract (a + d) (a + c) := by
  intro d hd
  apply ByteArray.ext
  simp [ByteArray.data_extract, Array.extract_extract]
  congr 1
  omega
theorem bt_ext_all (q : ByteArray) (a i : Nat) (ha : a ≤ q.size) : bt (q.extract a q.size) i = bt q (a + i) := by
  have hs := size_ext q a ha
  unfold bt
  by_cases h : a + i < q.size
  · rw [dif_pos (by omega), dif_pos h]
    congr 2
    simp [ByteArray.getElem_extract]
  · rw [dif_neg (by omega), dif_neg h]
theorem list_bt (s : ByteArray) (k : Nat) (c : UInt8) : s.data.toList[k]? = some c → bt s k = c.toNat ∧ k < s.size := by
  intro h
  have hk : k < s.data.toList.length := (List.getElem?_eq_some_iff.1 h).1
  have hk' : k < s.size := by simpa using hk
  refine ⟨?_, hk'⟩
  unfold bt
  rw [dif_pos hk']
  have e : s[k] = c := by
    have := (List.getElem?_eq_some_iff.1 h).2
    simp only [Array.getElem_toList] at this
    exact this
  rw [e]
theorem bt_list (s : ByteArray) (k : Nat) (c : UInt8) (hk : k < s.size) (h : bt s k = c.toNat) : s.data.toList[k]? = some c := by
  have hk2 : k < s.data.toList.length := by simpa using hk
  rw [List.getElem?_eq_getElem hk2]
  unfold bt at h
  rw [dif_pos hk] at h
  have e : s[k] = c := UInt8.toNat_inj.1 (by omega)
  simp only [Array.getElem_toList]
  exact congrArg some e

/-- The runs between dots from byte i on (d bytes are left), the one at hand begun at st; the empty ones left out. -/
def rn (v : ByteArray) : Nat → Nat → Nat → List ByteArray
  | 0, i, st => if st < i then [v.extract st i] else []
  | d + 1, i, st => if bt v i = 46 then (if st < i then [v.extract st i] else []) ++ rn v d (i + 1) (i + 1) else rn v d (i + 1) st
theorem rn_nodot (v : ByteArray) (st : Nat) : ∀ d i, (∀ k, i ≤ k → k < i + d → bt v k ≠ 46) → rn v d i st = if st < i + d then [v.extract st (i + d)] else []
  | 0, i, _ => rfl
  | d + 1, i, h => by
    unfold rn
    rw [if_neg (h i (Nat.le_refl _) (by omega)), rn_nodot v st d (i + 1) (fun k h1 h2 => h k (by omega) (by omega))]
    rw [show i + 1 + d = i + (d + 1) by omega]
theorem rn_dot (v : ByteArray) (st : Nat) : ∀ j i d, bt v (i + j) = 46 → (∀ k, i ≤ k → k < i + j → bt v k ≠ 46) → rn v (j + 1 + d) i st = (if st < i + j then [v.extract st (i + j)] else []) ++ rn v d (i + j + 1) (i + j + 1)
  | 0, i, d, h0, _ => by
    rw [show 0 + 1 + d = d + 1 by omega]
    rw [rn, if_pos (show bt v i = 46 from h0)]; rfl
  | j + 1, i, d, h0, h => by
    rw [show j + 1 + 1 + d = (j + 1 + d) + 1 by omega]
    rw [rn, if_neg (h i (Nat.le_refl _) (by omega)), rn_dot v st j (i + 1) d (by rw [show i + 1 + j = i + (j + 1) by omega]; exact h0) (fun k h1 h2 => h k (by omega) (by omega))]
    rw [show i + 1 + j = i + (j + 1) by omega]

def dot : ByteArray := ⟨#[46]⟩
def full (p : ByteArray) : Bool := decide (0 < p.size)
theorem indexB_dot (x : ByteArray) : Lib.indexB x dot = Lib.indexByte x.data.toList 46 := Lib.index_one _ _
theorem pieces (v : ByteArray) : ∀ (k st : Nat), st ≤ v.size → Lib.countB (v.extract st v.size) dot = k → (Lib.splitB dot 0 k (v.extract st v.size)).filter full = rn v (v.size - st) st st := by
  intro k
  induction k with
  | zero =>
    intro st hst hc
    rw [Lib.splitB_zero]
    have hm : Lib.indexB (v.extract st v.size) dot = -1 := by
      cases h : Lib.indexB (v.extract st v.size) dot with
      | ofNat i =>
        have := Lib.countB_hit _ dot i (by decide) h
        omega
      | negSucc i =>
        have := Lib.indexByte_ge (v.extract st v.size).data.toList 46
        rw [← indexB_dot, h] at this
        omega
    rw [indexB_dot] at hm
    have hno := Lib.indexByte_none hm
    have hsz := size_ext v st hst
    rw [rn_nodot v st (v.size - st) st (fun j h1 h2 e => by
      refine hno (j - st) (bt_list _ _ _ (by omega) ?_)
      rw [bt_ext_all v st _ hst, show st + (j - st) = j by omega, e]; rfl)]
    rw [show st + (v.size - st) = v.size by omega]
    by_cases h : st < v.size
    · rw [if_pos h]; simp [full, hsz]; omega
    · rw [if_neg h]; simp [full, hsz]; omega
  | succ k ih =>
    intro st hst hc
    have hsz := size_ext v st hst
    obtain ⟨j, hj⟩ : ∃ j : Nat, Lib.indexB (v.extract st v.size) dot = j := by
      cases h : Lib.indexB (v.extract st v.size) dot with
      | ofNat i => exact ⟨i, rfl⟩
      | negSucc i =>
        have h2 := Lib.indexByte_ge (v.extract st v.size).data.toList 46
        rw [← indexB_dot, h] at h2
        have : Lib.indexB (v.extract st v.size) dot = -1 := by rw [h]; omega
        have := Lib.countB_miss _ _ this
        omega
    have hh := Lib.countB_hit _ dot j (by decide) hj
    rw [Lib.splitB_hit _ _ _ _ _ hj]
    rw [indexB_dot] at hj
    obtain ⟨g1, g2⟩ := Lib.indexByte_some hj
    obtain ⟨g3, g4⟩ := list_bt _ _ _ g1
    rw [bt_ext_all v st _ hst] at g3
    have hd1 : dot.size = 1 := rfl
    rw [hd1] at hh ⊢
    have e1 : (v.extract st v.size).extract (j + 1) (v.extract st v.size).size = v.extract (st + (j + 1)) v.size := by
      rw [ext_ext v st v.size _ (by omega) (Nat.le_refl _) hst (j + 1) (by omega), hsz, show st + (v.size - st) = v.size by omega]
    have e2 : (v.extract st v.size).extract 0 (j + 0) = v.extract st (st + j) := by
      rw [ext_ext v st v.size (j + 0) (by omega) (Nat.le_refl _) hst 0 (by omega)]; rfl
    rw [e1] at hh ⊢
    rw [e2]
    have := ih (st + (j + 1)) (by omega) (by omega)
    rw [show v.size - st = j + 1 + (v.size - (st + (j + 1))) by omega]
    rw [rn_dot v st j st _ (by rw [g3]; rfl) (fun k h1 h2 e => by
      refine g2 (k - st) (by omega) (bt_list _ _ _ (by omega) ?_)
      rw [bt_ext_all v st _ hst, show st + (k - st) = k by omega, e]; rfl)]
    rw [show st + j + 1 = st + (j + 1) by omega, ← this, List.filter_cons]
    have e3 : full (v.extract st (st + j)) = decide (st < st + j) := by
      unfold full
      have : (v.extract st (st + j)).size = j := by simp [ByteArray.size_extract]; omega
      rw [this]; simp
    rw [e3]
    by_cases h : st < st + j
    · rw [if_pos h, decide_eq_true h]; rfl
    · rw [if_neg h, decide_eq_false h]; rfl
/-- What the pieces come to. -/
theorem pieces_all (v : ByteArray) : (Lib.splitB dot 0 (Lib.countB v dot) v).filter full = rn v v.size 0 0 := by
  have := pieces v (Lib.countB v dot) 0 (Nat.zero_le _) (by rw [show v.extract 0 v.size = v by simp])
  rw [show v.extract 0 v.size = v by simp] at this
  exact this
end Go.Proofs.Qxb6604142aDoor
