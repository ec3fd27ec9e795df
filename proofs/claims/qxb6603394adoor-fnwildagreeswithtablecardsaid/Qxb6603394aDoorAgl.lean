import Derived.Test.Qxb6603394aDoorTab
import Derived.Test.Qxb6603394aDoorWild
import Derived.Test.Qxb6603394aDoorRuns
set_option linter.unusedVariables false
set_option linter.unusedSimpArgs false
namespace Go.Proofs.Qxb6603394aDoor
open Go.RowKit Go.PlainAid

set_option maxRecDepth 100000 in
set_option maxHeartbeats 1000000 in
theorem agl_long (p s : ByteArray) (b : Bool) (w : World) (hl : ¬ (p.size ≤ 256 ∧ s.size ≤ 256)) (hp : p.size ≤ 140737488351232) (hs : s.size ≤ 140737488351232) :
    Calls Tryd.prog 3 #[.string p, .string s, .bool b] w fun e w' => e = .returned (.bool true) ∧ Below w.heap.size w w' := by
  go_enter Tryd.func3, Tryd.ntmps3
  go_wp2
  all_goals (go_ret; exact ⟨rfl, Below.refl _ _⟩)

theorem below_first {w w' : World} {n : Nat} (h : Below (w.drewN n).heap.size (w.drewN n) w') : Below w.heap.size w w' :=
  (below_drewN (Below.refl w.heap.size w) n).trans h

set_option maxRecDepth 100000 in
set_option maxHeartbeats 1000000 in
theorem agl_short (p s : ByteArray) (b : Bool) (w : World) (hp : p.size ≤ 256) (hs : s.size ≤ 256) :
    Calls Tryd.prog 3 #[.string p, .string s, .bool b] w fun e w' => e = .returned (.bool true) ∧ Below w.heap.size w w' := by
  have HW : Hid (∀ w, Calls Tryd.prog 14 #[.string p, .string s, .bool b] w fun e w' => e = .returned (.bool (W p s b)) ∧ ∃ n, w' = w.drewN n) := fun w => wild_any (p.size + 1) p s b w (by omega) hp hs
  have HT : Hid (∀ w, Calls Tryd.prog 10 #[.string p, .string s, .bool b] w fun e w' => e = .returned (.bool (W p s b)) ∧ Below w.heap.size w w') := fun w => table_any p s b w hp hs
  generalize W p s b = R at HW HT
  cases b
  · go_enter Tryd.func3, Tryd.ntmps3
    go_wp2_with (first
      | (go_at_call 14; refine (HW.out _).mono ?_; rintro e w' ⟨rfl, n, rfl⟩)
      | (go_at_call 10; refine (HT.out _).mono ?_; rintro e w' ⟨rfl, hb⟩)
      | go_in)
    go_ret
    exact ⟨ret_bool (by simp), below_first hb⟩
  · go_enter Tryd.func3, Tryd.ntmps3
    go_wp2_with (first
      | (go_at_call 7; refine (runs_any p _ hp).mono ?_; rintro e w' ⟨⟨r1, rfl⟩, rfl⟩)
      | (go_at_call 8; refine (slashes_any s _ hs).mono ?_; rintro e w' ⟨⟨r2, rfl⟩, rfl⟩)
      | (go_at_call 14; refine (HW.out _).mono ?_; rintro e w' ⟨rfl, n, rfl⟩)
      | (go_at_call 10; refine (HT.out _).mono ?_; rintro e w' ⟨rfl, hb⟩)
      | go_in)
    all_goals go_ret
    all_goals first
      | exact ⟨rfl, Below.refl _ _⟩
      | exact ⟨ret_bool (by simp), below_first (by assumption)⟩

theorem agl_any (p s : ByteArray) (b : Bool) (w : World) (hp : p.size ≤ 140737488351232) (hs : s.size ≤ 140737488351232) :
    Calls Tryd.prog 3 #[.string p, .string s, .bool b] w fun e w' => e = .returned (.bool true) ∧ Below w.heap.size w w' := by
  by_cases h : p.size ≤ 256 ∧ s.size ≤ 256
  · exact agl_short p s b w h.1 h.2
  · exact agl_long p s b w h hp hs
end Go.Proofs.Qxb6603394aDoor
