import Derived.Test.Qxb6603394aDoorEscw
import Derived.Handy
import Derived.Laws.BytesArg
set_option linter.unusedVariables false
set_option linter.unusedSimpArgs false
namespace Go.Proofs.Qxb6603394aDoor
open Go.RowKit Go.PlainAid

theorem Tryd.info5 : (Tryd.prog.info? 5).map (fun i => (i.zero, i.size, i.bytes)) = some (some (.int .u8 0), 1, 1) := by kernel_rfl

set_option maxRecDepth 100000 in
set_option maxHeartbeats 1000000 in
theorem esc_long (t s : ByteArray) (b : Bool) (w : World) (hl : ¬ (t.size ≤ 65536 ∧ s.size ≤ 65536)) (ht : t.size ≤ 140737488351232) (hs : s.size ≤ 140737488351232) :
    Calls Tryd.prog 4 #[.string t, .string s, .bool b] w fun e w' => e = .returned (.bool true) ∧ Below w.heap.size w w' := by
  go_enter Tryd.func4, Tryd.ntmps4
  go_wp2
  all_goals (go_ret; exact ⟨rfl, Below.refl _ _⟩)

theorem bytes_inj {s t : ByteArray} (h : s.toList = t.toList) : s = t := by
  rw [ByteArray.toList_eq, ByteArray.toList_eq] at h
  exact ByteArray.ext (Array.toList_inj.1 h)

/-- The pattern's bytes after k rounds. -/
def escN (t : ByteArray) : Nat → List Int
  | 0 => []
  | k + 1 => escN t k ++ [92, bt t k]
theorem escN_length (t : ByteArray) : ∀ k, (escN t k).length = 2 * k
  | 0 => rfl
  | k + 1 => by simp [escN, escN_length t k]; omega
theorem escN_get (t : ByteArray) : ∀ k j, j < k → (escN t k)[2 * j]? = some 92 ∧ (escN t k)[2 * j + 1]? = some (bt t j)
  | 0, j, h => by omega
  | k + 1, j, h => by
    by_cases e : j = k
    · subst e
      simp only [escN]
      rw [List.getElem?_append_right (by rw [escN_length]; omega), List.getElem?_append_right (by rw [escN_length]; omega), escN_length]
      simp
    · have := escN_get t k j (by omega)
      simp only [escN]
      rw [List.getElem?_append_left (by rw [escN_length]; omega), List.getElem?_append_left (by rw [escN_length]; omega)]
      exact this
theorem bt_strOfNums (xs : List Int) (j : Nat) (z : Int) (h : xs[j]? = some z) (h0 : 0 ≤ z) (h1 : z ≤ 255) : bt (strOfNums xs) j = z := by
  obtain ⟨hj, hz⟩ := List.getElem?_eq_some_iff.1 h
  unfold bt
  rw [dif_pos (by rw [strOfNums_size]; exact hj)]
  have : (strOfNums xs)[j]'(by rw [strOfNums_size]; exact hj) = UInt8.ofNat z.toNat := by
    show (strOfNums xs).data[j]'_ = _
    simp [strOfNums, hz]
  rw [this, UInt8.toNat_ofNat']
  omega

set_option maxRecDepth 100000 in
set_option maxHeartbeats 1000000 in
theorem esc_short (t s : ByteArray) (b : Bool) (w : World) (ht : t.size ≤ 65536) (hs : s.size ≤ 65536) :
    Calls Tryd.prog 4 #[.string t, .string s, .bool b] w fun e w' => e = .returned (.bool true) ∧ Below w.heap.size w w' := by
  obtain ⟨i0, hi, hz0, hz1, hz2⟩ := info_parts Tryd.info5
  have hb1 := get_bt t
  go_enter Tryd.func4, Tryd.ntmps4
  go_wp2_with (first
    | (at_make; refine wpList_make_own _ rfl _ _ 24 rfl w.heap.size 5 i0 (.int .u8 0) 1 Tryd.underlying24 hi hz0 hz1 .i64 .i64 _ (2 * t.size) rfl rfl (by omega) (by rw [hz2]; omega) (by unfold maxLen; omega) (Nat.le_refl _) ?_; intro w1 hown1 hgrow1)
    | go_in)
  have hbel1 : Below w.heap.size w w1 := (Below.refl _ _).grown hgrow1 (Nat.le_refl _) (fun k h => by cases h)
  go_loopw [7, 8] (fun v i wr => ∃ k : Nat, k ≤ t.size ∧ i = .int .i64 k ∧ v = .slice (some ⟨w.heap.size, 0, none⟩) (2 * k) (2 * t.size) ∧
      wr.ownsRow w.heap.size 5 1 (.slice (some ⟨w.heap.size, 0, none⟩) (2 * k) (2 * t.size)) (2 * k) ((escN t k).map (Value.int .u8)) ∧ Below w.heap.size w wr)
    (fun _ i _ => t.size - (intOf i).toNat)
  case atStart => exact ⟨0, Nat.zero_le _, rfl, rfl, hown1, hbel1⟩
  case round =>
    obtain ⟨k, hk, rfl, rfl, hown, hbel⟩ := hrel
    clear hown1 hgrow1 hbel1
    by_cases hkt : k < t.size
    · go_wp2_with (first
        | (at_builtin; refine wpList_append_fits _ rfl _ _ 24 rfl w.heap.size 5 i0 1 Tryd.underlying24 hi hz1 w.heap.size (2 * k) (2 * t.size) _ rfl (hown.alloc _) ⟨wr.heap.size, 0, none⟩ 2 2 [.int .u8 92, .int .u8 (bt t k)] rfl rfl ?c1 ?c2 ?c3 ?_)
        | go_in)
      case c1 =>
        intro j u hj
        match j, hj with
        | 0, hj => simp at hj; subst hj; simp [Addr.add]
        | 1, hj => simp at hj; subst hj; simp [Addr.add]
        | j + 2, hj => simp at hj
      case c2 => intro u hu; simp at hu; rcases hu with rfl | rfl <;> rfl
      case c3 => omega
      intro w2 hown2 hgrow2
      have hown3 : w2.ownsRow w.heap.size 5 1 (.slice (some ⟨w.heap.size, 0, none⟩) (2 * (k + 1)) (2 * t.size)) (2 * (k + 1)) ((escN t (k + 1)).map (Value.int .u8)) := by
        simpa [escN, Nat.mul_add] using hown2
      have hbel2 : Below w.heap.size w w2 := (hbel.alloc hbel.size _).grown hgrow2 (by have := hbel.size; simp; omega) (fun k h => by cases h; exact Nat.le_refl _)
      clear hown2 hgrow2 hown hbel
      go_wp2
      go_roundw
      case rel => exact ⟨k + 1, by omega, by go_num, by simp [Nat.mul_add], hown3, hbel2⟩
      case measure => simp [intOf]; omega
    · obtain rfl : k = t.size := by omega
      have hcv := run_convert_bytes_arg (P := Tryd.prog) wr 24 5 Tryd.underlying24 Tryd.underlying5 w.heap.size 0 (2 * t.size) (2 * t.size) (escN t t.size) (escN_length _ _) (fun i hi => by
        have := hown.cellAt i (by omega)
        rw [List.getElem?_map, List.getElem?_eq_getElem (by rw [escN_length]; exact hi)] at this
        rw [Nat.zero_add, this]
        simp [List.getD, List.getElem?_eq_getElem (show i < (escN t t.size).length by rw [escN_length]; exact hi)]) 9 Tryd.underlying9
      clear hown hkt hk
      have hpe : ∀ k, k < t.size → bt (strOfNums (escN t t.size)) (2 * k) = 92 ∧ bt (strOfNums (escN t t.size)) (2 * k + 1) = bt t k := fun k hk =>
        ⟨bt_strOfNums _ _ _ (escN_get t _ k hk).1 (by omega) (by omega), bt_strOfNums _ _ _ (escN_get t _ k hk).2 (bt_nonneg _ _) (bt_le _ _)⟩
      have hps : (strOfNums (escN t t.size)).size = 2 * t.size := by rw [strOfNums_size, escN_length]
      generalize strOfNums (escN t t.size) = P at hcv hpe hps
      have HP : Hid (∀ k, k < t.size → bt P (2 * k) = 92 ∧ bt P (2 * k + 1) = bt t k) := hpe
      have HZ : Hid (P.size = 2 * t.size) := hps
      clear hpe hps
      go_wp2_with (first
        | (go_at_call 14; refine (wild_esc P t s b _ HZ.out HP.out ht hs).mono ?_; rintro e w2 ⟨rfl, n, rfl⟩)
        | go_in)
      go_ret
      refine ⟨ret_bool ?_, ?_⟩
      · by_cases e : s = t
        · subst e; simp
        · have : ¬ s.toList = t.toList := fun h => e (bytes_inj h)
          simp [e, this]
      · exact below_drewN hbel n

theorem esc_any (t s : ByteArray) (b : Bool) (w : World) (ht : t.size ≤ 140737488351232) (hs : s.size ≤ 140737488351232) :
    Calls Tryd.prog 4 #[.string t, .string s, .bool b] w fun e w' => e = .returned (.bool true) ∧ Below w.heap.size w w' := by
  by_cases h : t.size ≤ 65536 ∧ s.size ≤ 65536
  · exact esc_short t s b w h.1 h.2
  · exact esc_long t s b w h ht hs
end Go.Proofs.Qxb6603394aDoor
