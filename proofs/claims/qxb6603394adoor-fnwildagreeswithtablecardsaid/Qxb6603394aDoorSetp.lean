import Derived.Test.Qxb6603394aDoorClass
import Derived.Lib.IndexLaws
set_option linter.unusedVariables false
set_option linter.unusedSimpArgs false
namespace Go.Proofs.Qxb6603394aDoor
open Go.RowKit Go.PlainAid

theorem bt_extract (q : ByteArray) (a b i : Nat) (h : a + i < b) (hb : b ≤ q.size) : bt (q.extract a b) i = bt q (a + i) := by
  unfold bt
  have hs : (q.extract a b).size = b - a := by simp [ByteArray.size_extract]; omega
  rw [dif_pos (by omega), dif_pos (by omega)]
  rw [ByteArray.getElem_extract]
theorem list_bt (q : ByteArray) (i : Nat) (h : i < q.size) : ∃ b : UInt8, q.data.toList[i]? = some b ∧ bt q i = b.toNat := by
  refine ⟨q[i], ?_, ?_⟩
  · rw [Array.getElem?_toList]; exact Array.getElem?_eq_getElem h
  · unfold bt; rw [dif_pos h]
theorem size_ext (q : ByteArray) (a : Nat) (h : a ≤ q.size) : (q.extract a q.size).size = q.size - a := by simp [ByteArray.size_extract]

/-- The first ']' from a on, counted from there. -/
def ixb (q : ByteArray) (a : Nat) (c : UInt8) : Int := Lib.indexByte (q.extract a q.size).data.toList c
theorem ixb_lt (q : ByteArray) (a : Nat) (c : UInt8) (ha : a ≤ q.size) : ixb q a c = -1 ∨ ∃ k : Nat, ixb q a c = k ∧ a + k < q.size := by
  unfold ixb
  have h1 := Lib.indexByte_ge (q.extract a q.size).data.toList c
  by_cases h2 : Lib.indexByte (q.extract a q.size).data.toList c = -1
  · exact .inl h2
  · right
    obtain ⟨k, hk⟩ : ∃ k : Nat, Lib.indexByte (q.extract a q.size).data.toList c = k := ⟨(Lib.indexByte (q.extract a q.size).data.toList c).toNat, by omega⟩
    refine ⟨k, hk, ?_⟩
    have := (Lib.indexByte_some hk).1
    obtain ⟨h3, _⟩ := List.getElem?_eq_some_iff.1 this
    rw [← Lib.size_eq, size_ext q a ha] at h3
    omega

/-- The name in '[:name:]', by what stands between '[:' and ']'. -/
def cname (q : ByteArray) (i k : Nat) : ByteArray := ⟨(Lib.trimSuffix (q.extract (i + 2) (i + 2 + k)).data.toList [58]).toArray⟩
def cis (q : ByteArray) (i k : Nat) : Bool := Lib.hasSuffix (q.extract (i + 2) (i + 2 + k)).data.toList [58]

/-- The set's loop. -/
def msGo (q : ByteArray) (c : Int) (neg : Bool) : Nat → Nat → Bool → Int → Bool → Bool → Bool × Int × Bool
  | 0, _, _, _, _, _ => (false, 0, false)
  | f + 1, i, inn, last, hl, first =>
    if q.size ≤ i then (false, 0, false)
    else if bt q i = 93 ∧ first = false then (inn != neg, (i : Int) + 1, true)
    else if bt q i = 92 then
      if q.size ≤ i + 1 then (false, 0, false) else msGo q c neg f (i + 2) (inn || bt q (i + 1) == c) (bt q (i + 1)) true false
    else if bt q i = 45 ∧ hl = true ∧ i + 1 < q.size ∧ bt q (i + 1) ≠ 93 then
      if bt q (i + 1) = 92 then
        if q.size ≤ i + 2 then (false, 0, false) else msGo q c neg f (i + 3) (inn || (decide (last ≤ c) && decide (c ≤ bt q (i + 2)))) last false false
      else msGo q c neg f (i + 2) (inn || (decide (last ≤ c) && decide (c ≤ bt q (i + 1)))) last false false
    else if bt q i = 91 ∧ i + 1 < q.size ∧ bt q (i + 1) = 58 then
      if ixb q (i + 2) 93 < 0 then (false, 0, false)
      else if cis q i (ixb q (i + 2) 93).toNat = false then msGo q c neg f (i + 1) (inn || c == 91) 91 true false
      else if (icF (cname q i (ixb q (i + 2) 93).toNat).toList c).2 = false then (false, 0, false)
      else msGo q c neg f (i + 2 + (ixb q (i + 2) 93).toNat + 1) (inn || (icF (cname q i (ixb q (i + 2) 93).toNat).toList c).1) last false false
    else msGo q c neg f (i + 1) (inn || bt q i == c) (bt q i) true false
def msNeg (q : ByteArray) : Bool := decide (1 < q.size) && (bt q 1 == 33 || bt q 1 == 94)
def ms (q : ByteArray) (c : Int) : Bool × Int × Bool := msGo q c (msNeg q) (q.size + 1) (if msNeg q then 2 else 1) false 0 false true

/-- Neither whether a set is well formed nor its width hangs on the byte. -/
theorem msGo_same (q : ByteArray) (c c' : Int) (neg : Bool) : ∀ (f i : Nat) (inn inn' : Bool) (last : Int) (hl first : Bool), (msGo q c neg f i inn last hl first).2 = (msGo q c' neg f i inn' last hl first).2
  | 0, _, _, _, _, _, _ => rfl
  | f + 1, i, inn, inn', last, hl, first => by
    simp only [msGo]
    have ih := msGo_same q c c' neg f
    split
    · rfl
    · split
      · rfl
      · split
        · split
          · rfl
          · exact ih ..
        · split
          · split
            · split
              · rfl
              · exact ih ..
            · exact ih ..
          · split
            · split
              · rfl
              · split
                · exact ih ..
                · rw [icF_known _ c c']
                  split
                  · rfl
                  · exact ih ..
            · exact ih ..
theorem ms_same (q : ByteArray) (c c' : Int) : (ms q c).2 = (ms q c').2 := msGo_same ..
/-- A well-formed set lies within the glob and ends in ']'. -/
theorem msGo_wid (q : ByteArray) (c : Int) (neg : Bool) : ∀ (f i : Nat) (inn : Bool) (last : Int) (hl first : Bool), (msGo q c neg f i inn last hl first).2.2 = true →
    1 ≤ (msGo q c neg f i inn last hl first).2.1 ∧ (msGo q c neg f i inn last hl first).2.1.toNat ≤ q.size ∧ bt q ((msGo q c neg f i inn last hl first).2.1.toNat - 1) = 93
  | 0, _, _, _, _, _ => fun h => by cases h
  | f + 1, i, inn, last, hl, first => by
    simp only [msGo]
    have ih := msGo_wid q c neg f
    split
    · intro h; cases h
    · split
      · rename_i h1 h2
        intro _
        refine ⟨by simp; omega, by simp; omega, ?_⟩
        rw [show ((i : Int) + 1).toNat - 1 = i by omega]
        exact h2.1
      · split
        · split
          · intro h; cases h
          · exact ih _ _ _ _ _
        · split
          · split
            · split
              · intro h; cases h
              · exact ih _ _ _ _ _
            · exact ih _ _ _ _ _
          · split
            · split
              · intro h; cases h
              · split
                · exact ih _ _ _ _ _
                · split
                  · intro h; cases h
                  · exact ih _ _ _ _ _
            · exact ih _ _ _ _ _
theorem ms_wid (q : ByteArray) (c : Int) (h : (ms q c).2.2 = true) : 1 ≤ (ms q c).2.1 ∧ (ms q c).2.1.toNat ≤ q.size ∧ bt q ((ms q c).2.1.toNat - 1) = 93 := msGo_wid _ _ _ _ _ _ _ _ _ h

/-- The loop's state leads to R. -/
def St (q : ByteArray) (c : Int) (neg : Bool) (R : Bool × Int × Bool) (i : Nat) (inn : Bool) (last : Int) (hl first : Bool) : Prop :=
  ∃ f, q.size + 1 ≤ f + i ∧ msGo q c neg f i inn last hl first = R
section
variable {q : ByteArray} {c : Int} {neg : Bool} {R : Bool × Int × Bool} {i : Nat} {inn : Bool} {last : Int} {hl first : Bool}
theorem St.start (q : ByteArray) (c : Int) : St q c (msNeg q) (ms q c) (if msNeg q then 2 else 1) false 0 false true := ⟨_, by omega, rfl⟩
theorem St.open_ (h : St q c neg R i inn last hl first) (hi : i < q.size) : ∃ f, q.size + 1 ≤ f + (i + 1) ∧ msGo q c neg (f + 1) i inn last hl first = R := by
  obtain ⟨f, h1, h2⟩ := h
  match f, h1, h2 with
  | 0, h1, h2 => omega
  | f + 1, h1, h2 => exact ⟨f, by omega, h2⟩
theorem St.done (h : St q c neg R i inn last hl first) (hi : q.size ≤ i) : R = (false, 0, false) := by
  obtain ⟨f, h1, h2⟩ := h
  match f, h1, h2 with
  | 0, h1, h2 => exact h2.symm
  | f + 1, h1, h2 => simp only [msGo] at h2; rw [if_pos hi] at h2; exact h2.symm
theorem St.close (h : St q c neg R i inn last hl first) (hi : i < q.size) (hb : bt q i = 93) (hf : first = false) : R = (inn != neg, (i : Int) + 1, true) := by
  obtain ⟨f, h1, h2⟩ := h.open_ hi
  simp only [msGo] at h2
  rw [if_neg (by omega), if_pos ⟨hb, hf⟩] at h2
  exact h2.symm
theorem St.escEnd (h : St q c neg R i inn last hl first) (hi : i < q.size) (hb : bt q i = 92) (h3 : q.size ≤ i + 1) : R = (false, 0, false) := by
  obtain ⟨f, h1, h2⟩ := h.open_ hi
  simp only [msGo] at h2
  rw [if_neg (by omega), if_neg (by omega), if_pos hb, if_pos h3] at h2
  exact h2.symm
theorem St.esc (h : St q c neg R i inn last hl first) (hi : i < q.size) (hb : bt q i = 92) (h3 : i + 1 < q.size) {x : Bool} (hx : x = (inn || bt q (i + 1) == c)) : St q c neg R (i + 2) x (bt q (i + 1)) true false := by
  obtain ⟨f, h1, h2⟩ := h.open_ hi
  simp only [msGo] at h2
  rw [if_neg (by omega), if_neg (by omega), if_pos hb, if_neg (by omega)] at h2
  exact ⟨f, by omega, by rw [hx]; exact h2⟩
theorem St.rangeEnd (h : St q c neg R i inn last hl first) (hb : bt q i = 45) (hh : hl = true) (h3 : i + 1 < q.size) (h4 : bt q (i + 1) = 92) (h5 : q.size ≤ i + 2) : R = (false, 0, false) := by
  obtain ⟨f, h1, h2⟩ := h.open_ (by omega)
  simp only [msGo] at h2
  rw [if_neg (by omega), if_neg (by omega), if_neg (by omega), if_pos ⟨hb, hh, h3, by omega⟩, if_pos h4, if_pos h5] at h2
  exact h2.symm
theorem St.rangeEsc (h : St q c neg R i inn last hl first) (hb : bt q i = 45) (hh : hl = true) (h3 : i + 1 < q.size) (h4 : bt q (i + 1) = 92) (h5 : i + 2 < q.size) {x : Bool} (hx : x = (inn || (decide (last ≤ c) && decide (c ≤ bt q (i + 2))))) : St q c neg R (i + 3) x last false false := by
  obtain ⟨f, h1, h2⟩ := h.open_ (by omega)
  simp only [msGo] at h2
  rw [if_neg (by omega), if_neg (by omega), if_neg (by omega), if_pos ⟨hb, hh, h3, by omega⟩, if_pos h4, if_neg (by omega)] at h2
  exact ⟨f, by omega, by rw [hx]; exact h2⟩
theorem St.range (h : St q c neg R i inn last hl first) (hb : bt q i = 45) (hh : hl = true) (h3 : i + 1 < q.size) (h4 : bt q (i + 1) ≠ 92) (h5 : bt q (i + 1) ≠ 93) {x : Bool} (hx : x = (inn || (decide (last ≤ c) && decide (c ≤ bt q (i + 1))))) : St q c neg R (i + 2) x last false false := by
  obtain ⟨f, h1, h2⟩ := h.open_ (by omega)
  simp only [msGo] at h2
  rw [if_neg (by omega), if_neg (by omega), if_neg (by omega), if_pos ⟨hb, hh, h3, h5⟩, if_neg h4] at h2
  exact ⟨f, by omega, by rw [hx]; exact h2⟩
theorem St.clsEnd (h : St q c neg R i inn last hl first) (hb : bt q i = 91) (h3 : i + 1 < q.size) (h4 : bt q (i + 1) = 58) (h5 : ixb q (i + 2) 93 = -1) : R = (false, 0, false) := by
  obtain ⟨f, h1, h2⟩ := h.open_ (by omega)
  simp only [msGo] at h2
  rw [if_neg (by omega), if_neg (by omega), if_neg (by omega), if_neg (by omega), if_pos ⟨hb, h3, h4⟩, if_pos (by omega)] at h2
  exact h2.symm
theorem St.clsNo (h : St q c neg R i inn last hl first) (hb : bt q i = 91) (h3 : i + 1 < q.size) (h4 : bt q (i + 1) = 58) {k : Nat} (h5 : ixb q (i + 2) 93 = k) (h6 : cis q i k = false) {x : Bool} (hx : x = (inn || c == 91)) : St q c neg R (i + 1) x 91 true false := by
  obtain ⟨f, h1, h2⟩ := h.open_ (by omega)
  simp only [msGo] at h2
  rw [if_neg (by omega), if_neg (by omega), if_neg (by omega), if_neg (by omega), if_pos ⟨hb, h3, h4⟩, if_neg (by omega), h5, Int.toNat_natCast, if_pos h6] at h2
  exact ⟨f, by omega, by rw [hx]; exact h2⟩
theorem St.clsBad (h : St q c neg R i inn last hl first) (hb : bt q i = 91) (h3 : i + 1 < q.size) (h4 : bt q (i + 1) = 58) {k : Nat} (h5 : ixb q (i + 2) 93 = k) (h6 : cis q i k = true) (h7 : (icF (cname q i k).toList c).2 = false) : R = (false, 0, false) := by
  obtain ⟨f, h1, h2⟩ := h.open_ (by omega)
  simp only [msGo] at h2
  rw [if_neg (by omega), if_neg (by omega), if_neg (by omega), if_neg (by omega), if_pos ⟨hb, h3, h4⟩, if_neg (by omega), h5, Int.toNat_natCast, if_neg (by simp [h6]), if_pos h7] at h2
  exact h2.symm
theorem St.cls (h : St q c neg R i inn last hl first) (hb : bt q i = 91) (h3 : i + 1 < q.size) (h4 : bt q (i + 1) = 58) {k : Nat} (h5 : ixb q (i + 2) 93 = k) (h6 : cis q i k = true) (h7 : (icF (cname q i k).toList c).2 = true) {x : Bool} (hx : x = (inn || (icF (cname q i k).toList c).1)) : St q c neg R (i + 2 + k + 1) x last false false := by
  obtain ⟨f, h1, h2⟩ := h.open_ (by omega)
  simp only [msGo] at h2
  rw [if_neg (by omega), if_neg (by omega), if_neg (by omega), if_neg (by omega), if_pos ⟨hb, h3, h4⟩, if_neg (by omega), h5, Int.toNat_natCast, if_neg (by simp [h6]), if_neg (by simp [h7])] at h2
  exact ⟨f, by omega, by rw [hx]; exact h2⟩
theorem St.plain (h : St q c neg R i inn last hl first) (hi : i < q.size) (h1 : ¬ (bt q i = 93 ∧ first = false)) (h2 : bt q i ≠ 92) (h3 : ¬ (bt q i = 45 ∧ hl = true ∧ i + 1 < q.size ∧ bt q (i + 1) ≠ 93)) (h4 : ¬ (bt q i = 91 ∧ i + 1 < q.size ∧ bt q (i + 1) = 58))
    {x : Bool} (hx : x = (inn || bt q i == c)) : St q c neg R (i + 1) x (bt q i) true false := by
  obtain ⟨f, h5, h6⟩ := h.open_ hi
  simp only [msGo] at h6
  rw [if_neg (by omega), if_neg h1, if_neg h2, if_neg h3, if_neg h4] at h6
  exact ⟨f, by omega, by rw [hx]; exact h6⟩
end
end Go.Proofs.Qxb6603394aDoor
