import Derived.Test.Qxb6603394aDoorShelf
import Derived.WalkKit
import Derived.WalkSpells
import Derived.WalkLawsBesides
import Derived.PlainAid
import Derived.BigQuiet
set_option linter.unusedVariables false
set_option linter.unusedSimpArgs false
namespace Go.Proofs.Qxb6603394aDoor
open Go.RowKit Go.PlainAid

/-- Is c from a up to b? -/
def rng (a b c : Int) : Bool := decide (a ≤ c) && decide (c ≤ b)
theorem ret_bb {a b d : Bool} (h : a = b) : Ending.returned (.tuple #[.bool a, .bool d]) = .returned (.tuple #[.bool b, .bool d]) := by rw [h]

/-- What inClass answers, by the name's bytes. -/
def icF (l : List UInt8) (c : Int) : Bool × Bool :=
  if (l == [97, 108, 110, 117, 109]) = true then (rng 97 122 c || rng 65 90 c || rng 48 57 c, true) else
  if (l == [97, 108, 112, 104, 97]) = true then (rng 97 122 c || rng 65 90 c, true) else
  if (l == [98, 108, 97, 110, 107]) = true then (decide (c = 32) || decide (c = 9), true) else
  if (l == [99, 110, 116, 114, 108]) = true then (decide (c < 32) || decide (c = 127), true) else
  if (l == [100, 105, 103, 105, 116]) = true then (rng 48 57 c, true) else
  if (l == [103, 114, 97, 112, 104]) = true then (rng 33 126 c, true) else
  if (l == [108, 111, 119, 101, 114]) = true then (rng 97 122 c, true) else
  if (l == [112, 114, 105, 110, 116]) = true then (rng 33 126 c || decide (c = 32), true) else
  if (l == [112, 117, 110, 99, 116]) = true then (rng 33 126 c && !rng 97 122 c && !rng 65 90 c && !rng 48 57 c, true) else
  if (l == [115, 112, 97, 99, 101]) = true then (decide (c = 32) || decide (c = 9) || decide (c = 10) || decide (c = 13), true) else
  if (l == [117, 112, 112, 101, 114]) = true then (rng 65 90 c, true) else
  if (l == [120, 100, 105, 103, 105, 116]) = true then (rng 48 57 c || rng 97 102 c || rng 65 70 c, true) else
  (false, false)

set_option maxRecDepth 100000 in
set_option maxHeartbeats 1000000 in
theorem ic_alnum (name : ByteArray) (c : Int) (w : World) (h0 : 0 ≤ c) (h1 : c ≤ 255) (hn : (name.toList == [97, 108, 110, 117, 109]) = true) :
    Calls Tryd.prog 22 #[.string name, .int .u8 c] w fun e w' => e = .returned (.tuple #[.bool (rng 97 122 c || rng 65 90 c || rng 48 57 c), .bool true]) ∧ w' = w := by
  go_enter Tryd.func22, Tryd.ntmps22
  go_wp2
  all_goals go_ret2
  all_goals (refine ⟨ret_bb ?_, rfl⟩; first | rfl | (rw [Bool.eq_iff_iff]; simp [rng]; omega) | (simp [rng]; omega) | (simp [rng]))

set_option maxRecDepth 100000 in
set_option maxHeartbeats 1000000 in
theorem ic_alpha (name : ByteArray) (c : Int) (w : World) (h0 : 0 ≤ c) (h1 : c ≤ 255) (n0 : (name.toList == [97, 108, 110, 117, 109]) = false) (hn : (name.toList == [97, 108, 112, 104, 97]) = true) :
    Calls Tryd.prog 22 #[.string name, .int .u8 c] w fun e w' => e = .returned (.tuple #[.bool (rng 97 122 c || rng 65 90 c), .bool true]) ∧ w' = w := by
  go_enter Tryd.func22, Tryd.ntmps22
  go_wp2
  all_goals go_ret2
  all_goals (refine ⟨ret_bb ?_, rfl⟩; first | rfl | (rw [Bool.eq_iff_iff]; simp [rng]; omega) | (simp [rng]; omega) | (simp [rng]))

set_option maxRecDepth 100000 in
set_option maxHeartbeats 1000000 in
theorem ic_blank (name : ByteArray) (c : Int) (w : World) (h0 : 0 ≤ c) (h1 : c ≤ 255) (n0 : (name.toList == [97, 108, 110, 117, 109]) = false) (n1 : (name.toList == [97, 108, 112, 104, 97]) = false) (hn : (name.toList == [98, 108, 97, 110, 107]) = true) :
    Calls Tryd.prog 22 #[.string name, .int .u8 c] w fun e w' => e = .returned (.tuple #[.bool (decide (c = 32) || decide (c = 9)), .bool true]) ∧ w' = w := by
  go_enter Tryd.func22, Tryd.ntmps22
  go_wp2
  all_goals go_ret2
  all_goals (refine ⟨ret_bb ?_, rfl⟩; first | rfl | (rw [Bool.eq_iff_iff]; simp [rng]; omega) | (simp [rng]; omega) | (simp [rng]))

set_option maxRecDepth 100000 in
set_option maxHeartbeats 1000000 in
theorem ic_cntrl (name : ByteArray) (c : Int) (w : World) (h0 : 0 ≤ c) (h1 : c ≤ 255) (n0 : (name.toList == [97, 108, 110, 117, 109]) = false) (n1 : (name.toList == [97, 108, 112, 104, 97]) = false) (n2 : (name.toList == [98, 108, 97, 110, 107]) = false) (hn : (name.toList == [99, 110, 116, 114, 108]) = true) :
    Calls Tryd.prog 22 #[.string name, .int .u8 c] w fun e w' => e = .returned (.tuple #[.bool (decide (c < 32) || decide (c = 127)), .bool true]) ∧ w' = w := by
  go_enter Tryd.func22, Tryd.ntmps22
  go_wp2
  all_goals go_ret2
  all_goals (refine ⟨ret_bb ?_, rfl⟩; first | rfl | (rw [Bool.eq_iff_iff]; simp [rng]; omega) | (simp [rng]; omega) | (simp [rng]))

set_option maxRecDepth 100000 in
set_option maxHeartbeats 1000000 in
theorem ic_digit (name : ByteArray) (c : Int) (w : World) (h0 : 0 ≤ c) (h1 : c ≤ 255) (n0 : (name.toList == [97, 108, 110, 117, 109]) = false) (n1 : (name.toList == [97, 108, 112, 104, 97]) = false) (n2 : (name.toList == [98, 108, 97, 110, 107]) = false) (n3 : (name.toList == [99, 110, 116, 114, 108]) = false) (hn : (name.toList == [100, 105, 103, 105, 116]) = true) :
    Calls Tryd.prog 22 #[.string name, .int .u8 c] w fun e w' => e = .returned (.tuple #[.bool (rng 48 57 c), .bool true]) ∧ w' = w := by
  go_enter Tryd.func22, Tryd.ntmps22
  go_wp2
  all_goals go_ret2
  all_goals (refine ⟨ret_bb ?_, rfl⟩; first | rfl | (rw [Bool.eq_iff_iff]; simp [rng]; omega) | (simp [rng]; omega) | (simp [rng]))

set_option maxRecDepth 100000 in
set_option maxHeartbeats 1000000 in
theorem ic_graph (name : ByteArray) (c : Int) (w : World) (h0 : 0 ≤ c) (h1 : c ≤ 255) (n0 : (name.toList == [97, 108, 110, 117, 109]) = false) (n1 : (name.toList == [97, 108, 112, 104, 97]) = false) (n2 : (name.toList == [98, 108, 97, 110, 107]) = false) (n3 : (name.toList == [99, 110, 116, 114, 108]) = false) (n4 : (name.toList == [100, 105, 103, 105, 116]) = false) (hn : (name.toList == [103, 114, 97, 112, 104]) = true) :
    Calls Tryd.prog 22 #[.string name, .int .u8 c] w fun e w' => e = .returned (.tuple #[.bool (rng 33 126 c), .bool true]) ∧ w' = w := by
  go_enter Tryd.func22, Tryd.ntmps22
  go_wp2
  all_goals go_ret2
  all_goals (refine ⟨ret_bb ?_, rfl⟩; first | rfl | (rw [Bool.eq_iff_iff]; simp [rng]; omega) | (simp [rng]; omega) | (simp [rng]))

set_option maxRecDepth 100000 in
set_option maxHeartbeats 1000000 in
theorem ic_lower (name : ByteArray) (c : Int) (w : World) (h0 : 0 ≤ c) (h1 : c ≤ 255) (n0 : (name.toList == [97, 108, 110, 117, 109]) = false) (n1 : (name.toList == [97, 108, 112, 104, 97]) = false) (n2 : (name.toList == [98, 108, 97, 110, 107]) = false) (n3 : (name.toList == [99, 110, 116, 114, 108]) = false) (n4 : (name.toList == [100, 105, 103, 105, 116]) = false) (n5 : (name.toList == [103, 114, 97, 112, 104]) = false) (hn : (name.toList == [108, 111, 119, 101, 114]) = true) :
    Calls Tryd.prog 22 #[.string name, .int .u8 c] w fun e w' => e = .returned (.tuple #[.bool (rng 97 122 c), .bool true]) ∧ w' = w := by
  go_enter Tryd.func22, Tryd.ntmps22
  go_wp2
  all_goals go_ret2
  all_goals (refine ⟨ret_bb ?_, rfl⟩; first | rfl | (rw [Bool.eq_iff_iff]; simp [rng]; omega) | (simp [rng]; omega) | (simp [rng]))

set_option maxRecDepth 100000 in
set_option maxHeartbeats 1000000 in
theorem ic_print (name : ByteArray) (c : Int) (w : World) (h0 : 0 ≤ c) (h1 : c ≤ 255) (n0 : (name.toList == [97, 108, 110, 117, 109]) = false) (n1 : (name.toList == [97, 108, 112, 104, 97]) = false) (n2 : (name.toList == [98, 108, 97, 110, 107]) = false) (n3 : (name.toList == [99, 110, 116, 114, 108]) = false) (n4 : (name.toList == [100, 105, 103, 105, 116]) = false) (n5 : (name.toList == [103, 114, 97, 112, 104]) = false) (n6 : (name.toList == [108, 111, 119, 101, 114]) = false) (hn : (name.toList == [112, 114, 105, 110, 116]) = true) :
    Calls Tryd.prog 22 #[.string name, .int .u8 c] w fun e w' => e = .returned (.tuple #[.bool (rng 33 126 c || decide (c = 32)), .bool true]) ∧ w' = w := by
  go_enter Tryd.func22, Tryd.ntmps22
  go_wp2
  all_goals go_ret2
  all_goals (refine ⟨ret_bb ?_, rfl⟩; first | rfl | (rw [Bool.eq_iff_iff]; simp [rng]; omega) | (simp [rng]; omega) | (simp [rng]))

set_option maxRecDepth 100000 in
set_option maxHeartbeats 1000000 in
theorem ic_punct (name : ByteArray) (c : Int) (w : World) (h0 : 0 ≤ c) (h1 : c ≤ 255) (n0 : (name.toList == [97, 108, 110, 117, 109]) = false) (n1 : (name.toList == [97, 108, 112, 104, 97]) = false) (n2 : (name.toList == [98, 108, 97, 110, 107]) = false) (n3 : (name.toList == [99, 110, 116, 114, 108]) = false) (n4 : (name.toList == [100, 105, 103, 105, 116]) = false) (n5 : (name.toList == [103, 114, 97, 112, 104]) = false) (n6 : (name.toList == [108, 111, 119, 101, 114]) = false) (n7 : (name.toList == [112, 114, 105, 110, 116]) = false) (hn : (name.toList == [112, 117, 110, 99, 116]) = true) :
    Calls Tryd.prog 22 #[.string name, .int .u8 c] w fun e w' => e = .returned (.tuple #[.bool (rng 33 126 c && !rng 97 122 c && !rng 65 90 c && !rng 48 57 c), .bool true]) ∧ w' = w := by
  go_enter Tryd.func22, Tryd.ntmps22
  go_wp2
  all_goals go_ret2
  all_goals (refine ⟨ret_bb ?_, rfl⟩; first | rfl | (rw [Bool.eq_iff_iff]; simp [rng]; omega) | (simp [rng]; omega) | (simp [rng]))

set_option maxRecDepth 100000 in
set_option maxHeartbeats 1000000 in
theorem ic_space (name : ByteArray) (c : Int) (w : World) (h0 : 0 ≤ c) (h1 : c ≤ 255) (n0 : (name.toList == [97, 108, 110, 117, 109]) = false) (n1 : (name.toList == [97, 108, 112, 104, 97]) = false) (n2 : (name.toList == [98, 108, 97, 110, 107]) = false) (n3 : (name.toList == [99, 110, 116, 114, 108]) = false) (n4 : (name.toList == [100, 105, 103, 105, 116]) = false) (n5 : (name.toList == [103, 114, 97, 112, 104]) = false) (n6 : (name.toList == [108, 111, 119, 101, 114]) = false) (n7 : (name.toList == [112, 114, 105, 110, 116]) = false) (n8 : (name.toList == [112, 117, 110, 99, 116]) = false) (hn : (name.toList == [115, 112, 97, 99, 101]) = true) :
    Calls Tryd.prog 22 #[.string name, .int .u8 c] w fun e w' => e = .returned (.tuple #[.bool (decide (c = 32) || decide (c = 9) || decide (c = 10) || decide (c = 13)), .bool true]) ∧ w' = w := by
  go_enter Tryd.func22, Tryd.ntmps22
  go_wp2
  all_goals go_ret2
  all_goals (refine ⟨ret_bb ?_, rfl⟩; first | rfl | (rw [Bool.eq_iff_iff]; simp [rng]; omega) | (simp [rng]; omega) | (simp [rng]))

set_option maxRecDepth 100000 in
set_option maxHeartbeats 1000000 in
theorem ic_upper (name : ByteArray) (c : Int) (w : World) (h0 : 0 ≤ c) (h1 : c ≤ 255) (n0 : (name.toList == [97, 108, 110, 117, 109]) = false) (n1 : (name.toList == [97, 108, 112, 104, 97]) = false) (n2 : (name.toList == [98, 108, 97, 110, 107]) = false) (n3 : (name.toList == [99, 110, 116, 114, 108]) = false) (n4 : (name.toList == [100, 105, 103, 105, 116]) = false) (n5 : (name.toList == [103, 114, 97, 112, 104]) = false) (n6 : (name.toList == [108, 111, 119, 101, 114]) = false) (n7 : (name.toList == [112, 114, 105, 110, 116]) = false) (n8 : (name.toList == [112, 117, 110, 99, 116]) = false) (n9 : (name.toList == [115, 112, 97, 99, 101]) = false) (hn : (name.toList == [117, 112, 112, 101, 114]) = true) :
    Calls Tryd.prog 22 #[.string name, .int .u8 c] w fun e w' => e = .returned (.tuple #[.bool (rng 65 90 c), .bool true]) ∧ w' = w := by
  go_enter Tryd.func22, Tryd.ntmps22
  go_wp2
  all_goals go_ret2
  all_goals (refine ⟨ret_bb ?_, rfl⟩; first | rfl | (rw [Bool.eq_iff_iff]; simp [rng]; omega) | (simp [rng]; omega) | (simp [rng]))

set_option maxRecDepth 100000 in
set_option maxHeartbeats 1000000 in
theorem ic_xdigit (name : ByteArray) (c : Int) (w : World) (h0 : 0 ≤ c) (h1 : c ≤ 255) (n0 : (name.toList == [97, 108, 110, 117, 109]) = false) (n1 : (name.toList == [97, 108, 112, 104, 97]) = false) (n2 : (name.toList == [98, 108, 97, 110, 107]) = false) (n3 : (name.toList == [99, 110, 116, 114, 108]) = false) (n4 : (name.toList == [100, 105, 103, 105, 116]) = false) (n5 : (name.toList == [103, 114, 97, 112, 104]) = false) (n6 : (name.toList == [108, 111, 119, 101, 114]) = false) (n7 : (name.toList == [112, 114, 105, 110, 116]) = false) (n8 : (name.toList == [112, 117, 110, 99, 116]) = false) (n9 : (name.toList == [115, 112, 97, 99, 101]) = false) (n10 : (name.toList == [117, 112, 112, 101, 114]) = false) (hn : (name.toList == [120, 100, 105, 103, 105, 116]) = true) :
    Calls Tryd.prog 22 #[.string name, .int .u8 c] w fun e w' => e = .returned (.tuple #[.bool (rng 48 57 c || rng 97 102 c || rng 65 70 c), .bool true]) ∧ w' = w := by
  go_enter Tryd.func22, Tryd.ntmps22
  go_wp2
  all_goals go_ret2
  all_goals (refine ⟨ret_bb ?_, rfl⟩; first | rfl | (rw [Bool.eq_iff_iff]; simp [rng]; omega) | (simp [rng]; omega) | (simp [rng]))

set_option maxRecDepth 100000 in
set_option maxHeartbeats 1000000 in
theorem ic_none (name : ByteArray) (c : Int) (w : World) (h0 : 0 ≤ c) (h1 : c ≤ 255) (n0 : (name.toList == [97, 108, 110, 117, 109]) = false) (n1 : (name.toList == [97, 108, 112, 104, 97]) = false) (n2 : (name.toList == [98, 108, 97, 110, 107]) = false) (n3 : (name.toList == [99, 110, 116, 114, 108]) = false) (n4 : (name.toList == [100, 105, 103, 105, 116]) = false) (n5 : (name.toList == [103, 114, 97, 112, 104]) = false) (n6 : (name.toList == [108, 111, 119, 101, 114]) = false) (n7 : (name.toList == [112, 114, 105, 110, 116]) = false) (n8 : (name.toList == [112, 117, 110, 99, 116]) = false) (n9 : (name.toList == [115, 112, 97, 99, 101]) = false) (n10 : (name.toList == [117, 112, 112, 101, 114]) = false) (n11 : (name.toList == [120, 100, 105, 103, 105, 116]) = false) :
    Calls Tryd.prog 22 #[.string name, .int .u8 c] w fun e w' => e = .returned (.tuple #[.bool false, .bool false]) ∧ w' = w := by
  go_enter Tryd.func22, Tryd.ntmps22
  go_wp2
  all_goals go_ret2
  all_goals (refine ⟨ret_bb ?_, rfl⟩; first | rfl | (rw [Bool.eq_iff_iff]; simp [rng]; omega) | (simp [rng]; omega) | (simp [rng]))

theorem inClass_any (name : ByteArray) (c : Int) (w : World) (h0 : 0 ≤ c) (h1 : c ≤ 255) :
    Calls Tryd.prog 22 #[.string name, .int .u8 c] w fun e w' => e = .returned (.tuple #[.bool (icF name.toList c).1, .bool (icF name.toList c).2]) ∧ w' = w := by
  cases n0 : (name.toList == [97, 108, 110, 117, 109]) with
  | true =>
    have e : icF name.toList c = (rng 97 122 c || rng 65 90 c || rng 48 57 c, true) := by unfold icF; rw [if_pos n0]
    rw [e]; exact ic_alnum name c w h0 h1  n0
  | false =>
    cases n1 : (name.toList == [97, 108, 112, 104, 97]) with
    | true =>
      have e : icF name.toList c = (rng 97 122 c || rng 65 90 c, true) := by unfold icF; rw [if_neg (by simp [n0]), if_pos n1]
      rw [e]; exact ic_alpha name c w h0 h1 n0 n1
    | false =>
      cases n2 : (name.toList == [98, 108, 97, 110, 107]) with
      | true =>
        have e : icF name.toList c = (decide (c = 32) || decide (c = 9), true) := by unfold icF; rw [if_neg (by simp [n0]), if_neg (by simp [n1]), if_pos n2]
        rw [e]; exact ic_blank name c w h0 h1 n0 n1 n2
      | false =>
        cases n3 : (name.toList == [99, 110, 116, 114, 108]) with
        | true =>
          have e : icF name.toList c = (decide (c < 32) || decide (c = 127), true) := by unfold icF; rw [if_neg (by simp [n0]), if_neg (by simp [n1]), if_neg (by simp [n2]), if_pos n3]
          rw [e]; exact ic_cntrl name c w h0 h1 n0 n1 n2 n3
        | false =>
          cases n4 : (name.toList == [100, 105, 103, 105, 116]) with
          | true =>
            have e : icF name.toList c = (rng 48 57 c, true) := by unfold icF; rw [if_neg (by simp [n0]), if_neg (by simp [n1]), if_neg (by simp [n2]), if_neg (by simp [n3]), if_pos n4]
            rw [e]; exact ic_digit name c w h0 h1 n0 n1 n2 n3 n4
          | false =>
            cases n5 : (name.toList == [103, 114, 97, 112, 104]) with
            | true =>
              have e : icF name.toList c = (rng 33 126 c, true) := by unfold icF; rw [if_neg (by simp [n0]), if_neg (by simp [n1]), if_neg (by simp [n2]), if_neg (by simp [n3]), if_neg (by simp [n4]), if_pos n5]
              rw [e]; exact ic_graph name c w h0 h1 n0 n1 n2 n3 n4 n5
            | false =>
              cases n6 : (name.toList == [108, 111, 119, 101, 114]) with
              | true =>
                have e : icF name.toList c = (rng 97 122 c, true) := by unfold icF; rw [if_neg (by simp [n0]), if_neg (by simp [n1]), if_neg (by simp [n2]), if_neg (by simp [n3]), if_neg (by simp [n4]), if_neg (by simp [n5]), if_pos n6]
                rw [e]; exact ic_lower name c w h0 h1 n0 n1 n2 n3 n4 n5 n6
              | false =>
                cases n7 : (name.toList == [112, 114, 105, 110, 116]) with
                | true =>
                  have e : icF name.toList c = (rng 33 126 c || decide (c = 32), true) := by unfold icF; rw [if_neg (by simp [n0]), if_neg (by simp [n1]), if_neg (by simp [n2]), if_neg (by simp [n3]), if_neg (by simp [n4]), if_neg (by simp [n5]), if_neg (by simp [n6]), if_pos n7]
                  rw [e]; exact ic_print name c w h0 h1 n0 n1 n2 n3 n4 n5 n6 n7
                | false =>
                  cases n8 : (name.toList == [112, 117, 110, 99, 116]) with
                  | true =>
                    have e : icF name.toList c = (rng 33 126 c && !rng 97 122 c && !rng 65 90 c && !rng 48 57 c, true) := by unfold icF; rw [if_neg (by simp [n0]), if_neg (by simp [n1]), if_neg (by simp [n2]), if_neg (by simp [n3]), if_neg (by simp [n4]), if_neg (by simp [n5]), if_neg (by simp [n6]), if_neg (by simp [n7]), if_pos n8]
                    rw [e]; exact ic_punct name c w h0 h1 n0 n1 n2 n3 n4 n5 n6 n7 n8
                  | false =>
                    cases n9 : (name.toList == [115, 112, 97, 99, 101]) with
                    | true =>
                      have e : icF name.toList c = (decide (c = 32) || decide (c = 9) || decide (c = 10) || decide (c = 13), true) := by unfold icF; rw [if_neg (by simp [n0]), if_neg (by simp [n1]), if_neg (by simp [n2]), if_neg (by simp [n3]), if_neg (by simp [n4]), if_neg (by simp [n5]), if_neg (by simp [n6]), if_neg (by simp [n7]), if_neg (by simp [n8]), if_pos n9]
                      rw [e]; exact ic_space name c w h0 h1 n0 n1 n2 n3 n4 n5 n6 n7 n8 n9
                    | false =>
                      cases n10 : (name.toList == [117, 112, 112, 101, 114]) with
                      | true =>
                        have e : icF name.toList c = (rng 65 90 c, true) := by unfold icF; rw [if_neg (by simp [n0]), if_neg (by simp [n1]), if_neg (by simp [n2]), if_neg (by simp [n3]), if_neg (by simp [n4]), if_neg (by simp [n5]), if_neg (by simp [n6]), if_neg (by simp [n7]), if_neg (by simp [n8]), if_neg (by simp [n9]), if_pos n10]
                        rw [e]; exact ic_upper name c w h0 h1 n0 n1 n2 n3 n4 n5 n6 n7 n8 n9 n10
                      | false =>
                        cases n11 : (name.toList == [120, 100, 105, 103, 105, 116]) with
                        | true =>
                          have e : icF name.toList c = (rng 48 57 c || rng 97 102 c || rng 65 70 c, true) := by unfold icF; rw [if_neg (by simp [n0]), if_neg (by simp [n1]), if_neg (by simp [n2]), if_neg (by simp [n3]), if_neg (by simp [n4]), if_neg (by simp [n5]), if_neg (by simp [n6]), if_neg (by simp [n7]), if_neg (by simp [n8]), if_neg (by simp [n9]), if_neg (by simp [n10]), if_pos n11]
                          rw [e]; exact ic_xdigit name c w h0 h1 n0 n1 n2 n3 n4 n5 n6 n7 n8 n9 n10 n11
                        | false =>
                          have e : icF name.toList c = (false, false) := by unfold icF; rw [if_neg (by simp [n0]), if_neg (by simp [n1]), if_neg (by simp [n2]), if_neg (by simp [n3]), if_neg (by simp [n4]), if_neg (by simp [n5]), if_neg (by simp [n6]), if_neg (by simp [n7]), if_neg (by simp [n8]), if_neg (by simp [n9]), if_neg (by simp [n10]), if_neg (by simp [n11])]
                          rw [e]; exact ic_none name c w h0 h1 n0 n1 n2 n3 n4 n5 n6 n7 n8 n9 n10 n11
theorem ite_snd {p : Prop} [Decidable p] {a b x : Bool} {y z : Bool × Bool} (h : y.2 = z.2) : (if p then (a, x) else y).2 = (if p then (b, x) else z).2 := by
  by_cases hp : p
  · rw [if_pos hp, if_pos hp]
  · rw [if_neg hp, if_neg hp, h]
/-- Whether the name is known does not hang on the byte. -/
theorem icF_known (l : List UInt8) (c c' : Int) : (icF l c).2 = (icF l c').2 := by
  unfold icF
  repeat refine ite_snd ?_
  rfl
end Go.Proofs.Qxb6603394aDoor
