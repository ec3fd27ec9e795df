import Derived.Test.Qxb6603871aDoorBll
import Derived.Test.Qxb6603871aDoorKwd
import Derived.BigQuiet
set_option linter.unusedVariables false
set_option linter.unusedSimpArgs false
namespace Go.Proofs.Qxb6603871aDoor
open Go.RowKit Go.PlainAid

set_option maxRecDepth 100000 in
set_option maxHeartbeats 1000000 in
theorem bodyw_any (x : ByteArray) (w : World) (hx : x.size ≤ 1048576) (r : Bool) (HR : Hid (r = bodyW x)) :
    Calls Tryd.prog 19 #[.string x] w fun e w' => e = .returned (.bool r) ∧ Drw w w' := by
  have HK : Hid (∀ t w, kwOk t → Calls Tryd.prog 17 #[.string x, .string t] w fun e w' => e = .returned (.bool (kw x t)) ∧ Drw w w') := fun t w ht => kwd_any x t w hx ht _ rfl
  have hr := HR.out
  clear HR
  unfold bodyW at hr
  by_cases h1 : kw x kPROCEDURE = true
  · obtain rfl : r = true := by rw [hr]; simp [h1]
    clear hr
    have HD := mkHid (Drw.refl w)
    go_enter Tryd.func19, Tryd.ntmps19
    go_wp2_with fail
    refine (HK.out _ _ ok_PROCEDURE).mono ?_
    rintro e w1 ⟨rfl, hd⟩
    replace HD := mkHid (HD.out.trans hd)
    clear hd
    rw [h1]
    go_wp2
    go_ret
    exact ⟨rfl, HD.out⟩
  · replace h1 : kw x kPROCEDURE = false := by simpa using h1
    by_cases h2 : kw x kFUNCTION = true
    · obtain rfl : r = true := by rw [hr]; simp [h1, h2]
      clear hr
      have HD := mkHid (Drw.refl w)
      go_enter Tryd.func19, Tryd.ntmps19
      go_wp2_with fail
      refine (HK.out _ _ ok_PROCEDURE).mono ?_
      rintro e w1 ⟨rfl, hd⟩
      replace HD := mkHid (HD.out.trans hd)
      clear hd
      rw [h1]
      go_wp2_with fail
      refine (HK.out _ _ ok_FUNCTION).mono ?_
      rintro e w2 ⟨rfl, hd⟩
      replace HD := mkHid (HD.out.trans hd)
      clear hd
      rw [h2]
      go_wp2
      go_ret
      exact ⟨rfl, HD.out⟩
    · replace h2 : kw x kFUNCTION = false := by simpa using h2
      by_cases h3 : kw x kTRIGGER = true
      · obtain rfl : r = true := by rw [hr]; simp [h1, h2, h3]
        clear hr
        have HD := mkHid (Drw.refl w)
        go_enter Tryd.func19, Tryd.ntmps19
        go_wp2_with fail
        refine (HK.out _ _ ok_PROCEDURE).mono ?_
        rintro e w1 ⟨rfl, hd⟩
        replace HD := mkHid (HD.out.trans hd)
        clear hd
        rw [h1]
        go_wp2_with fail
        refine (HK.out _ _ ok_FUNCTION).mono ?_
        rintro e w2 ⟨rfl, hd⟩
        replace HD := mkHid (HD.out.trans hd)
        clear hd
        rw [h2]
        go_wp2_with fail
        refine (HK.out _ _ ok_TRIGGER).mono ?_
        rintro e w3 ⟨rfl, hd⟩
        replace HD := mkHid (HD.out.trans hd)
        clear hd
        rw [h3]
        go_wp2
        go_ret
        exact ⟨rfl, HD.out⟩
      · replace h3 : kw x kTRIGGER = false := by simpa using h3
        by_cases h4 : kw x kEVENT = true
        · obtain rfl : r = true := by rw [hr]; simp [h1, h2, h3, h4]
          clear hr
          have HD := mkHid (Drw.refl w)
          go_enter Tryd.func19, Tryd.ntmps19
          go_wp2_with fail
          refine (HK.out _ _ ok_PROCEDURE).mono ?_
          rintro e w1 ⟨rfl, hd⟩
          replace HD := mkHid (HD.out.trans hd)
          clear hd
          rw [h1]
          go_wp2_with fail
          refine (HK.out _ _ ok_FUNCTION).mono ?_
          rintro e w2 ⟨rfl, hd⟩
          replace HD := mkHid (HD.out.trans hd)
          clear hd
          rw [h2]
          go_wp2_with fail
          refine (HK.out _ _ ok_TRIGGER).mono ?_
          rintro e w3 ⟨rfl, hd⟩
          replace HD := mkHid (HD.out.trans hd)
          clear hd
          rw [h3]
          go_wp2_with fail
          refine (HK.out _ _ ok_EVENT).mono ?_
          rintro e w4 ⟨rfl, hd⟩
          replace HD := mkHid (HD.out.trans hd)
          clear hd
          rw [h4]
          go_wp2
          go_ret
          exact ⟨rfl, HD.out⟩
        · replace h4 : kw x kEVENT = false := by simpa using h4
          by_cases h5 : kw x kPACKAGE = true
          · obtain rfl : r = true := by rw [hr]; simp [h1, h2, h3, h4, h5]
            clear hr
            have HD := mkHid (Drw.refl w)
            go_enter Tryd.func19, Tryd.ntmps19
            go_wp2_with fail
            refine (HK.out _ _ ok_PROCEDURE).mono ?_
            rintro e w1 ⟨rfl, hd⟩
            replace HD := mkHid (HD.out.trans hd)
            clear hd
            rw [h1]
            go_wp2_with fail
            refine (HK.out _ _ ok_FUNCTION).mono ?_
            rintro e w2 ⟨rfl, hd⟩
            replace HD := mkHid (HD.out.trans hd)
            clear hd
            rw [h2]
            go_wp2_with fail
            refine (HK.out _ _ ok_TRIGGER).mono ?_
            rintro e w3 ⟨rfl, hd⟩
            replace HD := mkHid (HD.out.trans hd)
            clear hd
            rw [h3]
            go_wp2_with fail
            refine (HK.out _ _ ok_EVENT).mono ?_
            rintro e w4 ⟨rfl, hd⟩
            replace HD := mkHid (HD.out.trans hd)
            clear hd
            rw [h4]
            go_wp2_with fail
            refine (HK.out _ _ ok_PACKAGE).mono ?_
            rintro e w5 ⟨rfl, hd⟩
            replace HD := mkHid (HD.out.trans hd)
            clear hd
            rw [h5]
            go_wp2
            go_ret
            exact ⟨rfl, HD.out⟩
          · replace h5 : kw x kPACKAGE = false := by simpa using h5
            obtain rfl : r = false := by rw [hr]; simp [h1, h2, h3, h4, h5]
            clear hr
            have HD := mkHid (Drw.refl w)
            go_enter Tryd.func19, Tryd.ntmps19
            go_wp2_with fail
            refine (HK.out _ _ ok_PROCEDURE).mono ?_
            rintro e w1 ⟨rfl, hd⟩
            replace HD := mkHid (HD.out.trans hd)
            clear hd
            rw [h1]
            go_wp2_with fail
            refine (HK.out _ _ ok_FUNCTION).mono ?_
            rintro e w2 ⟨rfl, hd⟩
            replace HD := mkHid (HD.out.trans hd)
            clear hd
            rw [h2]
            go_wp2_with fail
            refine (HK.out _ _ ok_TRIGGER).mono ?_
            rintro e w3 ⟨rfl, hd⟩
            replace HD := mkHid (HD.out.trans hd)
            clear hd
            rw [h3]
            go_wp2_with fail
            refine (HK.out _ _ ok_EVENT).mono ?_
            rintro e w4 ⟨rfl, hd⟩
            replace HD := mkHid (HD.out.trans hd)
            clear hd
            rw [h4]
            go_wp2_with fail
            refine (HK.out _ _ ok_PACKAGE).mono ?_
            rintro e w5 ⟨rfl, hd⟩
            replace HD := mkHid (HD.out.trans hd)
            clear hd
            rw [h5]
            go_wp2
            go_ret
            exact ⟨rfl, HD.out⟩

set_option maxRecDepth 100000 in
set_option maxHeartbeats 1000000 in
theorem bytes_any (kind : Int) (b off len cap : Nat) (ss : List ByteArray) (w : World) (hlen : len ≤ ss.length) (hr : len ≤ 8796093022000)
    (hc : ∀ j, j < ss.length → w.cell? ⟨b, off + j, none⟩ = some (.string (ss.getD j ByteArray.empty))) (hz : ∀ j, (ss.getD j ByteArray.empty).size ≤ 140737488351232) :
    Calls Tryd.prog 18 #[.int .i32 kind, .slice (some ⟨b, off, none⟩) len cap] w fun e w' => (∃ r, e = .returned (.bool r)) ∧ w' = w := by
  go_enter Tryd.func18, Tryd.ntmps18
  by_cases h1 : len ≤ 1048576
  · go_wp2
    go_loopg [5, 6] len (fun g v5 v6 wr => ∃ k z : Nat, k ≤ len ∧ z ≤ 1048576 ∧ g = len - k ∧ v5 = .int .i64 z ∧ v6 = .int .i64 k ∧ wr = w)
    case atStart => exact ⟨0, len, Nat.zero_le _, h1, rfl, rfl, rfl, rfl⟩
    case round =>
      obtain ⟨k, z, hk, hzz, rfl, rfl, rfl, rfl⟩ := hrel
      by_cases hkl : k < len
      · have hck := hc k (by omega)
        have hzk := hz k
        generalize ss.getD k ByteArray.empty = s at hck hzk
        clear hc hz
        by_cases h2 : s.size ≤ 1048576
        · by_cases h3 : z + s.size ≤ 1048576
          · go_wp2
            go_roundg (len - (k + 1))
            case measure => omega
            case rel => exact ⟨k + 1, z + s.size, by omega, by omega, rfl, by go_num, by go_num, rfl⟩
          · go_wp2
            all_goals (go_ret; exact ⟨⟨_, rfl⟩, rfl⟩)
        · go_wp2
          all_goals (go_ret; exact ⟨⟨_, rfl⟩, rfl⟩)
      · obtain rfl : k = len := by omega
        go_wp2
        all_goals (go_ret; exact ⟨⟨_, rfl⟩, rfl⟩)
  · go_wp2
    all_goals (go_ret; exact ⟨⟨_, rfl⟩, rfl⟩)
end Go.Proofs.Qxb6603871aDoor
