import Derived.Test.Qxb6603871aDoorScw
import Derived.Test.Qxb6603871aDoorScp
import Derived.WalkLawsBesides
set_option linter.unusedVariables false
set_option linter.unusedSimpArgs false
namespace Go.Proofs.Qxb6603871aDoor
open Go.RowKit Go.PlainAid

theorem Tryd.info9z : (Tryd.prog.info? 9).map (fun i => (i.zero, i.size, i.bytes)) = some (some (.string ⟨#[]⟩), 1, 16) := by kernel_rfl

set_option maxRecDepth 100000 in
set_option maxHeartbeats 1000000 in
theorem bytes_zero (kind : Int) (o : Option Addr) (cap : Nat) (w : World) : Calls Tryd.prog 18 #[.int .i32 kind, .slice o 0 cap] w fun e w' => (∃ r, e = .returned (.bool r)) ∧ w' = w := by
  go_enter Tryd.func18, Tryd.ntmps18
  go_wp2
  go_loopg [5, 6] 0 (fun g v5 v6 wr => g = 0 ∧ v5 = .int .i64 0 ∧ v6 = .int .i64 0 ∧ wr = w)
  case atStart => exact ⟨rfl, rfl, rfl, rfl⟩
  case round =>
    obtain ⟨rfl, rfl, rfl, rfl⟩ := hrel
    go_wp2
    all_goals (go_ret; exact ⟨⟨_, rfl⟩, rfl⟩)

set_option maxRecDepth 100000 in
set_option maxHeartbeats 1000000 in
theorem sc_none (kind : Int) (cap : Nat) (w : World) : Calls Tryd.prog 7 #[.int .i32 kind, .slice none 0 cap] w fun e w' => e = .returned (.bool true) ∧ Below w.heap.size w w' := by
  have HY := mkHid (bytes_zero kind none cap w)
  go_enter Tryd.func7, Tryd.ntmps7
  go_wp2_with fail
  refine (HY.out).mono ?_
  rintro e w1 ⟨⟨r, rfl⟩, rfl⟩
  clear HY
  cases r
  · go_wp2
    go_ret
    exact ⟨rfl, Below.refl _ _⟩
  go_wp2
  go_loopg [5, 6] 0 (fun g v5 v6 wr => g = 0 ∧ v5 = .int .i64 0 ∧ v6 = .int .i64 0 ∧ w1 = wr)
  case atStart => exact ⟨rfl, rfl, rfl, rfl⟩
  case round =>
    obtain ⟨rfl, rfl, rfl, rfl⟩ := hrel
    obtain ⟨i0, hi, hz0, hz1, hz2⟩ := info_parts Tryd.info9z
    go_wp2_with (first
      | (at_make; refine wpList_make_full _ rfl _ _ 32 rfl w1.heap.size 9 i0 (.string ⟨#[]⟩) 1 Tryd.underlying32 hi hz0 hz1 .i64 .i64 _ _ 0 rfl rfl rfl rfl (by rw [hz2]; omega) (by unfold maxLen; omega) (Nat.le_refl _) ?_; intro w2 hown1 hgrow1)
      | fail)
    have hbel1 : Below w1.heap.size w1 w2 := (Below.refl _ _).grown hgrow1 (Nat.le_refl _) (fun k h => by cases h)
    clear hown1 hgrow1
    go_loopg [8] 0 (fun g v wq => g = 0 ∧ v = .int .i64 0 ∧ Below w1.heap.size w1 wq)
    case atStart => exact ⟨rfl, rfl, hbel1⟩
    case round =>
      clear hbel1
      obtain ⟨rfl, rfl, hbel⟩ := hrel
      have hnil := Lib.run_eql_slice_nil (P := Tryd.prog) wr 32 9 none 0 cap 0 0 Tryd.underlying32
      have hlex := alloc_lex wr (L0 kind) 25
      have hb2 := hbel.alloc hbel.size (.cells #[.string ⟨#[]⟩, .int .i64 0, .int .i32 kind, .int .i64 0, .string ⟨#[]⟩, .bool false, .bool false, .int .i64 0, .bool false, .bool false] 25)
      go_wp2_with fail
      clear hbel hnil
      replace hlex : LexAt (wr.alloc (.cells #[.string ⟨#[]⟩, .int .i64 0, .int .i32 kind, .int .i64 0, .string ⟨#[]⟩, .bool false, .bool false, .int .i64 0, .bool false, .bool false] 25)) wr.heap.size (L0 kind) := hlex
      generalize (World.alloc wr _) = w3 at hlex hb2 ⊢
      generalize wr.heap.size = c at hlex hb2 ⊢
      go_loopg [10] 0 (fun g v wr => g = 0 ∧ v = .int .i64 0 ∧ wr = w3)
      case atStart => exact ⟨rfl, rfl, rfl⟩
      case round =>
        obtain ⟨rfl, rfl, rfl⟩ := hrel
        obtain ⟨c0, c1, c2, c3, c4, c5, c6, c7, c8, c9, f⟩ := hlex
        simp only [L0] at c0 c1 c2 c3 c4 c5 c6 c7 c8 c9
        clear f
        have HB := mkHid hb2
        clear hb2
        have e2 : (kind == kind) = true := by simp
        by_cases h3 : kind = 3
        · have h3b : (kind == 3) = true := by simp [h3]
          have h2b : (kind == 2) = false := by simp [h3]
          go_wp2
          all_goals (go_ret; exact ⟨rfl, HB.out⟩)
        · have h3b : (kind == 3) = false := by simp [h3]
          by_cases h2 : kind = 2
          · have h2b : (kind == 2) = true := by simp [h2]
            go_wp2
            all_goals (go_ret; exact ⟨rfl, HB.out⟩)
          · have h2b : (kind == 2) = false := by simp [h2]
            go_wp2
            all_goals (go_ret; exact ⟨rfl, HB.out⟩)

set_option maxRecDepth 100000 in
set_option maxHeartbeats 1000000 in
theorem sc_zero (kind : Int) (a : Addr) (cap : Nat) (w : World) : Calls Tryd.prog 7 #[.int .i32 kind, .slice (some a) 0 cap] w fun e w' => e = .returned (.bool true) ∧ Below w.heap.size w w' := by
  have HY := mkHid (bytes_zero kind (some a) cap w)
  go_enter Tryd.func7, Tryd.ntmps7
  go_wp2_with fail
  refine (HY.out).mono ?_
  rintro e w1 ⟨⟨r, rfl⟩, rfl⟩
  clear HY
  cases r
  · go_wp2
    go_ret
    exact ⟨rfl, Below.refl _ _⟩
  go_wp2
  go_loopg [5, 6] 0 (fun g v5 v6 wr => g = 0 ∧ v5 = .int .i64 0 ∧ v6 = .int .i64 0 ∧ w1 = wr)
  case atStart => exact ⟨rfl, rfl, rfl, rfl⟩
  case round =>
    obtain ⟨rfl, rfl, rfl, rfl⟩ := hrel
    obtain ⟨i0, hi, hz0, hz1, hz2⟩ := info_parts Tryd.info9z
    go_wp2_with (first
      | (at_make; refine wpList_make_full _ rfl _ _ 32 rfl w1.heap.size 9 i0 (.string ⟨#[]⟩) 1 Tryd.underlying32 hi hz0 hz1 .i64 .i64 _ _ 0 rfl rfl rfl rfl (by rw [hz2]; omega) (by unfold maxLen; omega) (Nat.le_refl _) ?_; intro w2 hown1 hgrow1)
      | fail)
    have hbel1 : Below w1.heap.size w1 w2 := (Below.refl _ _).grown hgrow1 (Nat.le_refl _) (fun k h => by cases h)
    clear hown1 hgrow1
    go_loopg [8] 0 (fun g v wq => g = 0 ∧ v = .int .i64 0 ∧ Below w1.heap.size w1 wq)
    case atStart => exact ⟨rfl, rfl, hbel1⟩
    case round =>
      clear hbel1
      obtain ⟨rfl, rfl, hbel⟩ := hrel
      have hnil := Lib.run_eql_slice_nil (P := Tryd.prog) wr 32 9 (some a) 0 cap 0 0 Tryd.underlying32
      have hlex := alloc_lex wr (L0 kind) 25
      have hb2 := hbel.alloc hbel.size (.cells #[.string ⟨#[]⟩, .int .i64 0, .int .i32 kind, .int .i64 0, .string ⟨#[]⟩, .bool false, .bool false, .int .i64 0, .bool false, .bool false] 25)
      go_wp2_with fail
      clear hbel hnil
      replace hlex : LexAt (wr.alloc (.cells #[.string ⟨#[]⟩, .int .i64 0, .int .i32 kind, .int .i64 0, .string ⟨#[]⟩, .bool false, .bool false, .int .i64 0, .bool false, .bool false] 25)) wr.heap.size (L0 kind) := hlex
      generalize (World.alloc wr _) = w3 at hlex hb2 ⊢
      generalize wr.heap.size = c at hlex hb2 ⊢
      go_loopg [10] 0 (fun g v wr => g = 0 ∧ v = .int .i64 0 ∧ wr = w3)
      case atStart => exact ⟨rfl, rfl, rfl⟩
      case round =>
        obtain ⟨rfl, rfl, rfl⟩ := hrel
        obtain ⟨c0, c1, c2, c3, c4, c5, c6, c7, c8, c9, f⟩ := hlex
        simp only [L0] at c0 c1 c2 c3 c4 c5 c6 c7 c8 c9
        clear f
        have HB := mkHid hb2
        clear hb2
        have e2 : (kind == kind) = true := by simp
        by_cases h3 : kind = 3
        · have h3b : (kind == 3) = true := by simp [h3]
          have h2b : (kind == 2) = false := by simp [h3]
          go_wp2
          all_goals (go_ret; exact ⟨rfl, HB.out⟩)
        · have h3b : (kind == 3) = false := by simp [h3]
          by_cases h2 : kind = 2
          · have h2b : (kind == 2) = true := by simp [h2]
            go_wp2
            all_goals (go_ret; exact ⟨rfl, HB.out⟩)
          · have h2b : (kind == 2) = false := by simp [h2]
            go_wp2
            all_goals (go_ret; exact ⟨rfl, HB.out⟩)
end Go.Proofs.Qxb6603871aDoor
