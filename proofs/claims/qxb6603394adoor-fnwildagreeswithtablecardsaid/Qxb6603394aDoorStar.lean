import Derived.Test.Qxb6603394aDoorWildp
import Derived.Deep.DeepCutAuto
set_option linter.unusedVariables false
set_option linter.unusedSimpArgs false
namespace Go.Proofs.Qxb6603394aDoor
open Go.RowKit Go.PlainAid

theorem c17 (p s : ByteArray) (b : Bool) (i : Nat) (w : World) (hi : i ≤ p.size) :
    Calls Tryd.prog 17 #[.string (p.extract i p.size), .string ⟨#[42]⟩] w fun e w' => e = .returned (.string (p.extract (Gl.re (gl p s b) i) p.size)) ∧ w' = w := by
  refine (Tryd.strings_TrimLeft_one _ 42 (by decide) _).mono ?_
  rintro e w' ⟨rfl, rfl⟩
  exact ⟨by rw [trim_re p s b i hi], rfl⟩

theorem mkHid {p : Prop} (h : p) : Hid p := h
/-- What globstar answers: V says whether what follows matches from x on. -/
def gsR (Q : Nat → Int) (V : Nat → Bool) (m x : Nat) : Bool := V x || (List.range (m - x)).any fun d => decide (Q (x + d) = 47) && V (x + d + 1)
theorem gsR_iff (Q : Nat → Int) (V : Nat → Bool) (m x : Nat) : gsR Q V m x = true ↔ V x = true ∨ ∃ d, x + d < m ∧ Q (x + d) = 47 ∧ V (x + d + 1) = true := by
  unfold gsR
  rw [Bool.or_eq_true, List.any_eq_true]
  constructor
  · rintro (h | ⟨d, h1, h2⟩)
    · exact .inl h
    · rw [Bool.and_eq_true] at h2
      exact .inr ⟨d, by have := List.mem_range.1 h1; omega, by simpa using h2.1, h2.2⟩
  · rintro (h | ⟨d, h1, h2, h3⟩)
    · exact .inl h
    · exact .inr ⟨d, List.mem_range.2 (by omega), by simp [h2, h3]⟩
theorem gsR_none {Q : Nat → Int} {V : Nat → Bool} {m x : Nat} (hV : V x = false) (h : ∀ d, x + d < m → Q (x + d) ≠ 47) : gsR Q V m x = false := by
  cases e : gsR Q V m x with
  | false => rfl
  | true =>
    rcases (gsR_iff Q V m x).1 e with h1 | ⟨d, h1, h2, h3⟩
    · rw [hV] at h1; cases h1
    · exact absurd h2 (h d h1)
theorem gsR_step {Q : Nat → Int} {V : Nat → Bool} {m x k : Nat} (hV : V x = false) (hk : x + k < m) (h47 : Q (x + k) = 47) (h : ∀ d, d < k → Q (x + d) ≠ 47) : gsR Q V m x = gsR Q V m (x + k + 1) := by
  apply eq_of_true_iff
  rw [gsR_iff, gsR_iff]
  constructor
  · rintro (h1 | ⟨d, h1, h2, h3⟩)
    · rw [hV] at h1; cases h1
    · have hd : ¬ d < k := fun e => h d e h2
      by_cases e : d = k
      · subst e; exact .inl h3
      · refine .inr ⟨d - k - 1, by omega, ?_, ?_⟩
        · rw [show x + k + 1 + (d - k - 1) = x + d by omega]; exact h2
        · rw [show x + k + 1 + (d - k - 1) + 1 = x + d + 1 by omega]; exact h3
  · rintro (h1 | ⟨d, h1, h2, h3⟩)
    · exact .inr ⟨k, hk, h47, h1⟩
    · refine .inr ⟨k + 1 + d, by omega, ?_, ?_⟩
      · rw [show x + (k + 1 + d) = x + k + 1 + d by omega]; exact h2
      · rw [show x + (k + 1 + d) + 1 = x + k + 1 + d + 1 by omega]; exact h3
theorem slash_at (t : ByteArray) : (Lib.indexByte t.data.toList 47 = -1 ∧ ∀ d, d < t.size → bt t d ≠ 47) ∨ ∃ k : Nat, Lib.indexByte t.data.toList 47 = k ∧ k < t.size ∧ bt t k = 47 ∧ ∀ d, d < k → bt t d ≠ 47 := by
  have h1 := Lib.indexByte_ge t.data.toList 47
  by_cases h2 : Lib.indexByte t.data.toList 47 = -1
  · refine .inl ⟨h2, fun d hd e => ?_⟩
    obtain ⟨x, x1, x2⟩ := list_bt t d hd
    have : x = 47 := UInt8.toNat_inj.1 (by rw [e] at x2; have : x.toNat = 47 := by omega
                                           rw [this]; rfl)
    exact Lib.indexByte_none h2 d (by rw [x1, this])
  · obtain ⟨k, hk⟩ : ∃ k : Nat, Lib.indexByte t.data.toList 47 = k := ⟨(Lib.indexByte t.data.toList 47).toNat, by omega⟩
    obtain ⟨k1, k2⟩ := Lib.indexByte_some hk
    obtain ⟨k3, _⟩ := List.getElem?_eq_some_iff.1 k1
    rw [← Lib.size_eq] at k3
    refine .inr ⟨k, hk, k3, ?_, fun d hd e => ?_⟩
    · obtain ⟨x, x1, x2⟩ := list_bt t k k3
      rw [k1] at x1; cases x1; rw [x2]; rfl
    · obtain ⟨x, x1, x2⟩ := list_bt t d (by omega)
      have : x = 47 := UInt8.toNat_inj.1 (by rw [e] at x2; have : x.toNat = 47 := by omega
                                             rw [this]; rfl)
      exact k2 d hd (by rw [x1, this])
theorem c20s (t : ByteArray) (w : World) (k : Int) (hk : Lib.indexByte t.data.toList 47 = k) :
    Calls Tryd.prog 20 #[.string t, .int .u8 47] w fun e w' => e = .returned (.int .i64 k) ∧ w' = w := by
  refine (Tryd.strings_IndexByte _ _ _).mono ?_
  rintro e w' ⟨rfl, rfl⟩
  exact ⟨by rw [← hk]; rfl, rfl⟩

theorem nonempty_list {r : ByteArray} (h : 1 ≤ r.size) : (r.toList == []) = false := by
  rw [Lib.toList_data]
  cases e : r.data.toList with
  | nil => rw [Lib.size_eq, e] at h; simp at h
  | cons a l => rfl
theorem empty_list {r : ByteArray} (h : r.size = 0) : (r.toList == []) = true := by
  rw [Lib.toList_data]
  have : r.data.toList = [] := List.eq_nil_of_length_eq_zero (by rw [← Lib.size_eq]; exact h)
  rw [this]; rfl

set_option maxRecDepth 100000 in
set_option maxHeartbeats 1000000 in
theorem glob_empty (r s0 : ByteArray) (w : World) (hr : r.size = 0) :
    Calls Tryd.prog 18 #[.string r, .string s0] w fun e w' => e = .returned (.bool true) ∧ ∃ n, w' = w.drewN n := by
  have he : r.toList = [] := by have := empty_list hr; simpa using this
  clear hr
  go_enter Tryd.func18, Tryd.ntmps18
  go_wp2
  go_ret
  exact ⟨rfl, 0, rfl⟩

set_option maxRecDepth 100000 in
set_option maxHeartbeats 1000000 in
theorem glob_any (r s0 : ByteArray) (w : World) (hr : 1 ≤ r.size) (hr2 : r.size ≤ 256) (hs : s0.size ≤ 256) (V : Nat → Bool)
    (IH : Hid (∀ (x : Nat) (w : World), x ≤ s0.size → Calls Tryd.prog 14 #[.string (r.extract 1 r.size), .string (s0.extract x s0.size), .bool true] w fun e w' => e = .returned (.bool (V x)) ∧ ∃ n, w' = w.drewN n))
    (R : Bool) (HR : Hid (gsR (bt s0) V s0.size 0 = R)) :
    Calls Tryd.prog 18 #[.string r, .string s0] w fun e w' => e = .returned (.bool R) ∧ ∃ n, w' = w.drewN n := by
  have he : (r.toList == []) = false := nonempty_list hr
  have hst : Hid (s0 = s0.extract 0 s0.size) := by
    show _ = _
    apply eq_of_bt
    · rw [size_ext _ _ (Nat.zero_le _)]; omega
    · intro j hj
      rw [bt_ext_all s0 0 j (Nat.zero_le _), Nat.zero_add]
  go_enter Tryd.func18, Tryd.ntmps18
  go_wp2
  go_loopg [1] s0.size (fun g v wr => ∃ (x : Nat) (t : ByteArray), x ≤ s0.size ∧ g = s0.size - x ∧ v = .string t ∧ Hid (t = s0.extract x s0.size) ∧ Hid (gsR (bt s0) V s0.size x = R) ∧ ∃ n, wr = w.drewN n)
  case atStart => exact ⟨0, s0, Nat.zero_le _, rfl, rfl, hst, HR, 0, rfl⟩
  case round =>
    clear he hst HR
    obtain ⟨x, t, hx, rfl, rfl, HT, HR, n0, rfl⟩ := hrel
    have hts : t.size + x = s0.size := by rw [HT.out, size_ext _ _ hx]; omega
    have hts1 : t.size + x ≤ s0.size := by omega
    have hts2 : s0.size ≤ t.size + x := by omega
    have HTS := mkHid hts
    clear hts
    have HC : Hid (∀ w, Calls Tryd.prog 14 #[.string (r.extract 1 r.size), .string t, .bool true] w fun e w' => e = .returned (.bool (V x)) ∧ ∃ n, w' = w.drewN n) := by
      intro w; rw [HT.out]; exact IH.out x w hx
    cases hV : V x with
    | true =>
      have HF : Hid (R = true) := by show _ = _; rw [← HR.out]; unfold gsR; rw [hV]; rfl
      rw [hV] at HC
      clear hV HT
      go_wp2_with (go_at_call 14; refine (HC.out _).mono ?_; rintro e w' ⟨rfl, n1, rfl⟩)
      go_ret
      exact ⟨ret_bool HF.out.symm, _, rfl⟩
    | false =>
      rw [hV] at HC
      rcases slash_at t with ⟨k1, k2⟩ | ⟨k, k1, k2, k3, k4⟩
      · have HK := mkHid k1
        have HF : Hid (R = false) := by
          show _ = _
          rw [← HR.out]
          exact gsR_none hV fun d hd e => k2 d (by omega) (by rw [HT.out, bt_ext_all _ _ _ hx]; exact e)
        clear hV HT k1 k2
        go_wp2_with (first
          | (go_at_call 14; refine (HC.out _).mono ?_; rintro e w' ⟨rfl, n1, rfl⟩)
          | (go_at_call 20; refine (c20s t _ _ HK.out).mono ?_; rintro e w' ⟨rfl, rfl⟩))
        go_ret
        exact ⟨ret_bool HF.out.symm, _, rfl⟩
      · have HK := mkHid k1
        have HF : Hid (gsR (bt s0) V s0.size (x + k + 1) = R) := by
          show _ = _
          rw [← HR.out]
          symm
          exact gsR_step hV (by omega) (by rw [← bt_ext_all _ _ _ hx, ← HT.out]; exact k3) fun d hd e => k4 d hd (by rw [HT.out, bt_ext_all _ _ _ hx]; exact e)
        have HE : Hid (t.extract (k + 1) t.size = s0.extract (x + k + 1) s0.size) := by
          show _ = _
          rw [HT.out, ext_ext _ _ _ hx]; congr 1; omega
        clear hV k1 k3 k4
        go_wp2_with (first
          | (go_at_call 14; refine (HC.out _).mono ?_; rintro e w' ⟨rfl, n1, rfl⟩)
          | (go_at_call 20; refine (c20s t _ _ HK.out).mono ?_; rintro e w' ⟨rfl, rfl⟩))
        go_roundg (s0.size - (x + k + 1))
        case measure => omega
        case rel => exact ⟨x + k + 1, _, by omega, rfl, rfl, HE, HF, _, rfl⟩
end Go.Proofs.Qxb6603394aDoor
