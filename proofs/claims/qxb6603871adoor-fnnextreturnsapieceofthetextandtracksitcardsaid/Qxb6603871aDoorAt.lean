import Derived.Test.Qxb6603871aDoorWd
import Derived.Test.Qxb6603871aDoorKwd
set_option linter.unusedVariables false
set_option linter.unusedSimpArgs false
namespace Go.Proofs.Qxb6603871aDoor
open Go.RowKit Go.PlainAid

set_option maxRecDepth 100000 in
set_option maxHeartbeats 1000000 in
theorem at_any (s t : ByteArray) (p b : Nat) (w : World) (c0 : w.cell? ⟨b, 0, none⟩ = some (.string s)) (c1 : w.cell? ⟨b, 1, none⟩ = some (.int .i64 p)) (hp : p ≤ s.size) (hz : s.size ≤ 1048576)
    (r : Bool) (HR : Hid (r = Lib.hasPrefix (s.extract p s.size).data.toList t.data.toList)) :
    Calls Tryd.prog 26 #[.pointer (some ⟨b, 0, none⟩), .string t] w fun e w' => e = .returned (.bool r) ∧ Drw w w' := by
  have HC : Hid (∀ w, Calls Tryd.prog 34 #[.string (s.extract p s.size), .string t] w fun e w' => e = .returned (.bool r) ∧ w' = w) := fun w => by
    have := Tryd.strings_HasPrefix (s.extract p s.size) t w
    rw [← HR.out] at this
    exact this
  clear HR
  go_enter Tryd.func26, Tryd.ntmps26
  go_wp2_with fail
  go_quiet ((go_at_call 34; exact Calls.quiet_of_same (HC.out _)))
  go_wp2_with fail
  go_ret
  exact ⟨rfl, ⟨_, rfl⟩⟩
theorem pre_bt (s t : ByteArray) (p : Nat) (hp : p ≤ s.size) (h : Lib.hasPrefix (s.extract p s.size).data.toList t.data.toList = true) : p + t.size ≤ s.size ∧ ∀ k, k < t.size → bt s (p + k) = bt t k := by
  have hs := size_ext s p hp
  unfold Lib.hasPrefix at h
  obtain ⟨l, hl⟩ := List.isPrefixOf_iff_prefix.1 h
  have h1 : t.size ≤ (s.extract p s.size).size := by
    have := congrArg List.length hl
    simp only [List.length_append] at this
    have a : t.data.toList.length = t.size := by simp
    have b : (s.extract p s.size).data.toList.length = (s.extract p s.size).size := by simp
    omega
  refine ⟨by omega, fun k hk => ?_⟩
  rw [← bt_ext_all s p k hp]
  have e : (s.extract p s.size).data.toList[k]? = t.data.toList[k]? := by
    rw [← hl, List.getElem?_append_left (by simpa using hk)]
  unfold bt
  rw [dif_pos (by omega), dif_pos hk]
  have e1 : (s.extract p s.size).data.toList[k]? = some ((s.extract p s.size)[k]'(by omega)) := by
    rw [List.getElem?_eq_getElem (by simpa using (show k < (s.extract p s.size).size by omega))]
    simp only [Array.getElem_toList]; rfl
  have e2 : t.data.toList[k]? = some (t[k]'hk) := by
    rw [List.getElem?_eq_getElem (by simpa using hk)]
    simp only [Array.getElem_toList]; rfl
  rw [e1, e2] at e
  rw [Option.some.inj e]
end Go.Proofs.Qxb6603871aDoor
