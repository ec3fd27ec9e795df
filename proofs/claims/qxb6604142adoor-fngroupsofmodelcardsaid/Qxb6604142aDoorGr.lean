import Derived.Test.Qxb6604142aDoorShelf
import Derived.Test.Qxb6604142aDoorPl
import Derived.WalkKit
import Derived.WalkSpells
import Derived.WalkLawsBesides
import Derived.Handy
set_option linter.unusedVariables false
set_option linter.unusedSimpArgs false
namespace Go.Proofs.Qxb6604142aDoor
open Go.RowKit Go.PlainAid

theorem mkHid {p : Prop} (h : p) : Hid p := h
theorem Tryd.info9 : (Tryd.prog.info? 9).map (fun i => (i.zero, i.size, i.bytes)) = some (some (.string ⟨#[]⟩), 1, 16) := by kernel_rfl
/-- The pieces of v. -/
def ps (v : ByteArray) : List ByteArray := Lib.splitB dot 0 (Lib.countB v dot) v
/-- .. the first k of them, the empty ones left out. -/
def F (P : List ByteArray) (k : Nat) : List ByteArray := (P.take k).filter full
theorem F_le (P : List ByteArray) (k : Nat) : (F P k).length ≤ k := by
  have h1 := List.length_filter_le full (P.take k)
  have h2 : (P.take k).length ≤ k := by simp; omega
  unfold F; omega
theorem F_hit (P : List ByteArray) (k : Nat) (hk : k < P.length) (h : full (P.getD k ByteArray.empty) = true) : F P (k + 1) = F P k ++ [P.getD k ByteArray.empty] := by
  unfold F
  rw [List.take_succ_eq_append_getElem hk, List.filter_append]
  congr 1
  rw [List.getD_eq_getElem?_getD, List.getElem?_eq_getElem hk] at h ⊢
  simp only [Option.getD_some] at h ⊢
  rw [List.filter_cons, if_pos h]; rfl
theorem F_miss (P : List ByteArray) (k : Nat) (hk : k < P.length) (h : full (P.getD k ByteArray.empty) = false) : F P (k + 1) = F P k := by
  unfold F
  rw [List.take_succ_eq_append_getElem hk, List.filter_append]
  rw [List.getD_eq_getElem?_getD, List.getElem?_eq_getElem hk] at h
  simp only [Option.getD_some] at h
  rw [List.filter_cons, if_neg (by rw [h]; decide)]; simp

theorem cell_pieces (w : World) (P : List ByteArray) (k : Nat) (hk : k < P.length) : (w.alloc (.cells (P.map Value.string).toArray 9)).cell? ⟨w.heap.size, k, none⟩ = some (.string (P.getD k ByteArray.empty)) := by
  rw [World.cell?_alloc_new]
  simp [hk]
theorem full_of (p : ByteArray) (b : Bool) (h : p.toList.isEmpty = b) : full p = !b := by
  have hs : p.toList.length = p.size := by rw [Go.ByteArray.toList_eq]; simp
  unfold full
  subst h
  cases hl : p.toList with
  | nil => rw [hl] at hs; simp at hs; simp [← hs]
  | cons a l => rw [hl] at hs; simp at hs; simp; omega

set_option maxRecDepth 100000 in
set_option maxHeartbeats 1000000 in
theorem groups_pk (t v : ByteArray) (ht : (t.toList == [112, 97, 99, 107, 97, 103, 101, 115]) = true) (w : World) (hsh : w.ShapedOpen Tryd.prog) (hv : v.size ≤ 1048576) :
    Calls Tryd.prog 6 #[.string t, .string v] w fun e w' => ∃ u, e = .returned u ∧ w'.ownsRow (w.heap.size + 1) 9 1 u ((ps v).filter full).length (((ps v).filter full).map Value.string) ∧ Below w.heap.size w w' ∧ ((ps v).filter full = [] → u = .slice none 0 0) := by
  have hcnt := Lib.countB_le dot (by decide) v.size v (Nat.le_refl _)
  have hlen : (ps v).length = Lib.countB v dot + 1 := Lib.splitB_all dot (by decide) 0 _ v rfl
  have HC : Hid (Calls Tryd.prog 7 #[.string v, .string dot] w fun e w' => e = .returned (.slice (some ⟨w.heap.size, 0, none⟩) (Lib.countB v dot + 1) (Lib.countB v dot + 1)) ∧ w' = w.alloc (.cells ((ps v).map Value.string).toArray 9)) := Tryd.strings_Split_shaped v dot w hsh (by omega) (by decide)
  have hFa : F (ps v) (Lib.countB v dot + 1) = (ps v).filter full := by unfold F; rw [← hlen, List.take_length]
  rw [← hFa]
  clear hFa hsh
  generalize ps v = P at *
  generalize Lib.countB v dot = n at *
  obtain ⟨i0, hi, hz0, hz1, hz2⟩ := info_parts Tryd.info9
  go_enter Tryd.func6, Tryd.ntmps6
  go_wp2_with fail
  refine (HC.out).mono ?_
  rintro e w2 ⟨rfl, hw2⟩
  have hbel : Below w.heap.size w w2 := by rw [hw2]; exact (Below.refl _ _).alloc (Nat.le_refl _) _
  have hsz2 : w2.heap.size = w.heap.size + 1 := by rw [hw2]; simp
  have HCell : Hid (∀ k, k < n + 1 → w2.cell? ⟨w.heap.size, k, none⟩ = some (.string (P.getD k ByteArray.empty))) := by
    intro k hk
    rw [hw2]
    exact cell_pieces w P k (by omega)
  clear hw2 HC
  have HBel := mkHid hbel
  clear hbel
  go_wp2_with fail
  go_loopg [5, 17] (n + 1) (fun g u x wr => ∃ k : Nat, k ≤ n + 1 ∧ g = n + 1 - k ∧ x = .int .i64 k ∧ wr.ownsRow (w.heap.size + 1) 9 1 u (F P k).length ((F P k).map Value.string) ∧ Below (w.heap.size + 1) w2 wr ∧ (F P k = [] → u = .slice none 0 0))
  case atStart => exact ⟨0, Nat.zero_le _, rfl, rfl, World.ownsRow_nil _ _ _ _, Below.refl _ _, fun _ => rfl⟩
  case round =>
    obtain ⟨k, hk, rfl, rfl, hown, hb, hnil⟩ := hrel
    have hle := F_le P k
    by_cases hkl : k < n + 1
    · have hck := (hb.cell (p := ⟨w.heap.size, k, none⟩) (Nat.lt_succ_self _)).trans (HCell.out k hkl)
      have hh := F_hit P k (by omega)
      have hm := F_miss P k (by omega)
      generalize P.getD k ByteArray.empty = p at hck hh hm
      cases hp : p.toList.isEmpty
      · replace hh := hh (full_of p _ hp)
        clear hm
        have hlo : ∀ j, u5.ownBlock = some j → w.heap.size + 1 ≤ j := fun j hj => (hown.lt j hj).1
        go_wp2_with (first
          | (at_builtin; refine wpList_append_own _ rfl _ _ 23 rfl (w.heap.size + 1) 9 i0 (.string ⟨#[]⟩) 1 16 Tryd.underlying23 hi hz0 hz1 hz2 rfl (by decide) _ _ _ rfl (hown.alloc _) ⟨wr.heap.size, 0, none⟩ 1 1 [.string p] rfl rfl ?c1 ?c2 ?c3 ?c4 ?c5 ?_)
          | fail)
        case c1 =>
          intro j x hj
          match j, hj with
          | 0, hj => simp at hj; subst hj; simp [Addr.add]
        case c2 => intro x hx; simp at hx; subst hx; rfl
        case c3 => unfold maxLen; omega
        case c4 => omega
        case c5 => have := hb.size; simp; omega
        intro v' w3 hown3 hgrow hnil3
        have hb3 : Below (w.heap.size + 1) w2 w3 := Below.grown (hb.alloc (by have := hb.size; omega) _) hgrow (by have := hb.size; simp; omega) hlo
        have HX : Hid (w3.ownsRow (w.heap.size + 1) 9 1 v' (F P (k + 1)).length ((F P (k + 1)).map Value.string)) := by
          show World.ownsRow _ _ _ _ _ _ _
          rw [hh]; simpa using hown3
        clear hown3 hgrow hnil3 hown hb hnil
        go_wp2_with fail
        go_roundg (n + 1 - (k + 1))
        case measure => omega
        case rel => exact ⟨k + 1, by omega, rfl, by go_num, HX.out, hb3, fun h => absurd h (by rw [hh]; simp)⟩
      · replace hm := hm (full_of p _ hp)
        clear hh
        go_wp2_with fail
        go_roundg (n + 1 - (k + 1))
        case measure => omega
        case rel => exact ⟨k + 1, by omega, rfl, by go_num, by rw [hm]; exact hown, hb, by rw [hm]; exact hnil⟩
    · obtain rfl : k = n + 1 := by omega
      clear hkl
      go_wp2_with fail
      go_ret
      exact ⟨_, rfl, hown, HBel.out.trans (hb.mono (by omega)), hnil⟩
end Go.Proofs.Qxb6604142aDoor
