import Derived.Test.Qxb6603871aDoorTrk
import Derived.Laws.BytesArg
set_option linter.unusedVariables false
set_option linter.unusedSimpArgs false
namespace Go.Proofs.Qxb6603871aDoor
open Go.RowKit Go.PlainAid

/-- A byte with its letter's case turned. -/
def swp (c : Int) : Int := if 97 ≤ c ∧ c ≤ 122 then c - 32 else if 65 ≤ c ∧ c ≤ 90 then c + 32 else c
/-- v is x with every letter's case turned. -/
def Swap (x v : ByteArray) : Prop := v.size = x.size ∧ ∀ k, bt v k = swp (bt x k)
theorem kwI_swap {x v t : ByteArray} (h : Swap x v) (ht : kwOk t) : ∀ (f k p : Nat), f + k ≤ t.size → kwI v t f k p = kwI x t f k p
  | 0, k, p, _ => by simp only [kwI]; rw [h.1]
  | f + 1, k, p, hk => by
    have hc := ht.2 k (by omega)
    have e0 := h.2 p
    have e1 := h.2 (p + 1)
    have e2 := h.2 (p + 2)
    have a1 : (p < v.size ∧ (bt v p = bt t k ∨ bt v p = bt t k + 32)) ↔ (p < x.size ∧ (bt x p = bt t k ∨ bt x p = bt t k + 32)) := by
      rw [h.1, e0]; unfold swp; split
      · omega
      · split <;> omega
    have a2 : (bt t k = 75 ∧ bt v p = 226 ∧ bt v (p + 1) = 132 ∧ bt v (p + 2) = 170) ↔ (bt t k = 75 ∧ bt x p = 226 ∧ bt x (p + 1) = 132 ∧ bt x (p + 2) = 170) := by
      have b0 : bt v p = 226 ↔ bt x p = 226 := by rw [e0]; unfold swp; split <;> (try split) <;> omega
      have b1 : bt v (p + 1) = 132 ↔ bt x (p + 1) = 132 := by rw [e1]; unfold swp; split <;> (try split) <;> omega
      have b2 : bt v (p + 2) = 170 ↔ bt x (p + 2) = 170 := by rw [e2]; unfold swp; split <;> (try split) <;> omega
      rw [b0, b1, b2]
    have a3 : (bt t k = 83 ∧ bt v p = 197 ∧ bt v (p + 1) = 191) ↔ (bt t k = 83 ∧ bt x p = 197 ∧ bt x (p + 1) = 191) := by
      have b0 : bt v p = 197 ↔ bt x p = 197 := by rw [e0]; unfold swp; split <;> (try split) <;> omega
      have b1 : bt v (p + 1) = 191 ↔ bt x (p + 1) = 191 := by rw [e1]; unfold swp; split <;> (try split) <;> omega
      rw [b0, b1]
    simp only [kwI]
    rw [kwI_swap h ht f (k + 1) (p + 1) (by omega), kwI_swap h ht f (k + 1) (p + 3) (by omega), kwI_swap h ht f (k + 1) (p + 2) (by omega)]
    simp only [a1, a2, a3]
theorem kw_swap {x v t : ByteArray} (h : Swap x v) (ht : kwOk t) : kw v t = kw x t := kwI_swap h ht _ _ _ (by omega)
theorem trackF_swap {x v : ByteArray} (h : Swap x v) (L : Lx) : trackF L v = { trackF L x with prev := v } := by
  unfold trackF bodyW
  simp only [kw_swap h ok_CREATE, kw_swap h ok_BEGIN, kw_swap h ok_ATOMIC, kw_swap h ok_CASE, kw_swap h ok_END, kw_swap h ok_PROCEDURE, kw_swap h ok_FUNCTION, kw_swap h ok_TRIGGER, kw_swap h ok_EVENT, kw_swap h ok_PACKAGE, kw_swap h ok_NOT]
  split
  · rfl
  · split
    · split
      · rfl
      · split <;> rfl
    · split
      · rfl
      · split <;> rfl
theorem trackF_prev (L : Lx) (x : ByteArray) : (trackF L x).prev = x := by
  unfold trackF; simp only
  split
  · rfl
  · split
    · split
      · rfl
      · split <;> rfl
    · split
      · rfl
      · split <;> rfl

theorem Tryd.info5 : (Tryd.prog.info? 5).map (fun i => (i.zero, i.size, i.bytes)) = some (some (.int .u8 0), 1, 1) := by kernel_rfl
theorem bt_strOfNums (xs : List Int) (j : Nat) (z : Int) (h : xs[j]? = some z) (h0 : 0 ≤ z) (h1 : z ≤ 255) : bt (strOfNums xs) j = z := by
  obtain ⟨hj, hz⟩ := List.getElem?_eq_some_iff.1 h
  unfold bt
  rw [dif_pos (by rw [strOfNums_size]; exact hj)]
  have : (strOfNums xs)[j]'(by rw [strOfNums_size]; exact hj) = UInt8.ofNat z.toNat := by
    show (strOfNums xs).data[j]'_ = _
    simp [strOfNums, hz]
  rw [this, UInt8.toNat_ofNat']
  omega
/-- The slice's bytes after k rounds. -/
def swN (x : ByteArray) (k : Nat) : List Int := (List.range x.size).map fun j => if j < k then swp (bt x j) else 0
theorem swN_set (x : ByteArray) (k : Nat) (hk : k < x.size) : (swN x k).set k (swp (bt x k)) = swN x (k + 1) := by
  apply List.ext_getElem
  · simp [swN]
  · intro j h1 h2
    simp only [swN, List.length_set, List.length_map, List.length_range] at h1
    rw [List.getElem_set]
    by_cases e : k = j
    · subst e; simp [swN]
    · rw [if_neg e]
      simp only [swN, List.getElem_map, List.getElem_range]
      by_cases h3 : j < k
      · rw [if_pos h3, if_pos (by omega)]
      · rw [if_neg h3, if_neg (by omega)]

set_option maxRecDepth 100000 in
set_option maxHeartbeats 4000000 in
theorem swap_any (x : ByteArray) (w : World) (hx : x.size ≤ 1048576) :
    Calls Tryd.prog 15 #[.string x] w fun e w' => (∃ v, e = .returned (.string v) ∧ Swap x v) ∧ Below w.heap.size w w' := by
  have hb1 := get_bt x
  obtain ⟨i0, hi, hz0, hz1, hz2⟩ := info_parts Tryd.info5
  go_enter Tryd.func15, Tryd.ntmps15
  go_wp2_with (first
    | (at_make; refine wpList_make_full _ rfl _ _ 40 rfl w.heap.size 5 i0 (.int .u8 0) 1 Tryd.underlying40 hi hz0 hz1 .i64 .i64 _ _ x.size rfl rfl rfl rfl (by rw [hz2]; omega) (by unfold maxLen; omega) (Nat.le_refl _) ?_; intro w1 hown1 hgrow1)
    | go_in)
  have hbel1 : Below w.heap.size w w1 := (Below.refl _ _).grown hgrow1 (Nat.le_refl _) (fun k h => by cases h)
  have hown2 : w1.ownsRow w.heap.size 5 1 (.slice (some ⟨w.heap.size, 0, none⟩) x.size x.size) x.size ((swN x 0).map (Value.int .u8)) := by
    have : (madeCells (Value.int IntKind.u8 0).cells (x.size * 1)).toList = (swN x 0).map (Value.int .u8) := by
      rw [show (Value.int IntKind.u8 0).cells = #[Value.int .u8 0] from rfl, toList_madeCells_one, Nat.mul_one]
      simp [swN, List.map_const']
    rw [this] at hown1; exact hown1
  clear hown1 hgrow1
  go_loopg [4] x.size (fun g v wr => ∃ k : Nat, k ≤ x.size ∧ g = x.size - k ∧ v = .int .i64 k ∧ wr.ownsRow w.heap.size 5 1 (.slice (some ⟨w.heap.size, 0, none⟩) x.size x.size) x.size ((swN x k).map (Value.int .u8)) ∧ Below w.heap.size w wr)
  case atStart => exact ⟨0, Nat.zero_le _, rfl, rfl, hown2, hbel1⟩
  case round =>
    clear hown2 hbel1
    obtain ⟨k, hk, rfl, rfl, hown, hbel⟩ := hrel
    by_cases hkx : k < x.size
    · have hc : ∃ u, wr.cell? ⟨w.heap.size, k, none⟩ = some u := ⟨_, (hown.cellAt k (by omega)).trans (List.getElem?_eq_getElem (by simp [swN]; exact hkx))⟩
      obtain ⟨u, hc⟩ := hc
      have hf := hown.frozenAt k
      have g0 := bt_nonneg x k
      have g1 := bt_le x k
      by_cases hlo : 97 ≤ bt x k ∧ bt x k ≤ 122
      · obtain ⟨l1, l2⟩ := hlo
        have hsw : swp (bt x k) = bt x k - 32 := by unfold swp; rw [if_pos ⟨l1, l2⟩]
        have HS : Hid ((wr.setCell ⟨w.heap.size, k, none⟩ (.int .u8 (bt x k - 32))).ownsRow w.heap.size 5 1 (.slice (some ⟨w.heap.size, 0, none⟩) x.size x.size) x.size ((swN x (k + 1)).map (Value.int .u8))) := by
          have := (hown.stored k (.int .u8 (bt x k - 32))).1
          rw [← hsw] at this ⊢
          rw [← swN_set x k hkx, List.map_set]
          exact this
        clear hsw hown
        go_wp2
        go_roundg (x.size - (k + 1))
        case measure => omega
        case rel => exact ⟨k + 1, by omega, rfl, by go_num, HS.out, hbel.setCell (Nat.le_refl _) _⟩
      · by_cases hup : 65 ≤ bt x k ∧ bt x k ≤ 90
        · obtain ⟨l1, l2⟩ := hup
          have hsw : swp (bt x k) = bt x k + 32 := by unfold swp; rw [if_neg (by omega), if_pos ⟨l1, l2⟩]
          have HS : Hid ((wr.setCell ⟨w.heap.size, k, none⟩ (.int .u8 (bt x k + 32))).ownsRow w.heap.size 5 1 (.slice (some ⟨w.heap.size, 0, none⟩) x.size x.size) x.size ((swN x (k + 1)).map (Value.int .u8))) := by
            have := (hown.stored k (.int .u8 (bt x k + 32))).1
            rw [← hsw] at this ⊢
            rw [← swN_set x k hkx, List.map_set]
            exact this
          clear hsw hown
          go_wp2
          go_roundg (x.size - (k + 1))
          case measure => omega
          case rel => exact ⟨k + 1, by omega, rfl, by go_num, HS.out, hbel.setCell (Nat.le_refl _) _⟩
        · by_cases h97 : 97 ≤ bt x k
          · have h122 : ¬ bt x k ≤ 122 := by omega
            have hsw : swp (bt x k) = bt x k := by unfold swp; rw [if_neg (by omega), if_neg (by omega)]
            have HS : Hid ((wr.setCell ⟨w.heap.size, k, none⟩ (.int .u8 (bt x k))).ownsRow w.heap.size 5 1 (.slice (some ⟨w.heap.size, 0, none⟩) x.size x.size) x.size ((swN x (k + 1)).map (Value.int .u8))) := by
              have := (hown.stored k (.int .u8 (bt x k))).1
              rw [← hsw] at this ⊢
              rw [← swN_set x k hkx, List.map_set]
              exact this
            clear hsw hown
            go_wp2
            go_roundg (x.size - (k + 1))
            case measure => omega
            case rel => exact ⟨k + 1, by omega, rfl, by go_num, HS.out, hbel.setCell (Nat.le_refl _) _⟩
          · by_cases h65 : 65 ≤ bt x k
            · have h90 : ¬ bt x k ≤ 90 := by omega
              have hsw : swp (bt x k) = bt x k := by unfold swp; rw [if_neg (by omega), if_neg (by omega)]
              have HS : Hid ((wr.setCell ⟨w.heap.size, k, none⟩ (.int .u8 (bt x k))).ownsRow w.heap.size 5 1 (.slice (some ⟨w.heap.size, 0, none⟩) x.size x.size) x.size ((swN x (k + 1)).map (Value.int .u8))) := by
                have := (hown.stored k (.int .u8 (bt x k))).1
                rw [← hsw] at this ⊢
                rw [← swN_set x k hkx, List.map_set]
                exact this
              clear hsw hown
              go_wp2
              go_roundg (x.size - (k + 1))
              case measure => omega
              case rel => exact ⟨k + 1, by omega, rfl, by go_num, HS.out, hbel.setCell (Nat.le_refl _) _⟩
            · have h64 : bt x k < 65 := by omega
              have hsw : swp (bt x k) = bt x k := by unfold swp; rw [if_neg (by omega), if_neg (by omega)]
              have HS : Hid ((wr.setCell ⟨w.heap.size, k, none⟩ (.int .u8 (bt x k))).ownsRow w.heap.size 5 1 (.slice (some ⟨w.heap.size, 0, none⟩) x.size x.size) x.size ((swN x (k + 1)).map (Value.int .u8))) := by
                have := (hown.stored k (.int .u8 (bt x k))).1
                rw [← hsw] at this ⊢
                rw [← swN_set x k hkx, List.map_set]
                exact this
              clear hsw hown
              go_wp2
              go_roundg (x.size - (k + 1))
              case measure => omega
              case rel => exact ⟨k + 1, by omega, rfl, by go_num, HS.out, hbel.setCell (Nat.le_refl _) _⟩
    · obtain rfl : k = x.size := by omega
      have hlen : (swN x x.size).length = x.size := by simp [swN]
      have hcv := run_convert_bytes_arg (P := Tryd.prog) wr 40 5 Tryd.underlying40 Tryd.underlying5 w.heap.size 0 x.size x.size (swN x x.size) hlen (fun i hi => by
        have := hown.cellAt i (by omega)
        rw [List.getElem?_map, List.getElem?_eq_getElem (by rw [hlen]; exact hi)] at this
        rw [Nat.zero_add, this]
        simp [List.getD, List.getElem?_eq_getElem (show i < (swN x x.size).length by rw [hlen]; exact hi)]) 9 Tryd.underlying9
      have HW : Hid (Swap x (strOfNums (swN x x.size))) := by
        refine ⟨by rw [strOfNums_size, hlen], fun j => ?_⟩
        by_cases hj : j < x.size
        · have hb := bt_nonneg x j
          have hb2 := bt_le x j
          exact bt_strOfNums _ j _ (by rw [List.getElem?_eq_getElem (by omega)]; simp [swN, hj]) (by unfold swp; split <;> (try split) <;> omega) (by unfold swp; split <;> (try split) <;> omega)
        · rw [bt_end _ (by rw [strOfNums_size, hlen]; omega), bt_end x (by omega)]; rfl
      generalize strOfNums (swN x x.size) = v at hcv HW
      clear hown hkx hk hlen
      go_wp2
      go_ret
      exact ⟨⟨v, rfl, HW.out⟩, hbel⟩
end Go.Proofs.Qxb6603871aDoor
