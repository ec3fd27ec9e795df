import Derived.Test.Qxb6603394aDoorSetp
import Derived.Deep.DeepCutAuto
set_option linter.unusedVariables false
set_option linter.unusedSimpArgs false
namespace Go.Proofs.Qxb6603394aDoor
open Go.RowKit Go.PlainAid

theorem pre58 (l : List UInt8) : Lib.hasPrefix l [58] = (l[0]? == some 58) := by
  cases l with
  | nil => rfl
  | cons a l => simp [Lib.hasPrefix, List.isPrefixOf]; exact Bool.beq_comm
theorem c19 (q : ByteArray) (a : Nat) (w : World) (ha : a ≤ q.size) (b : Bool) (hb : (decide (a < q.size) && bt q a == 58) = b) :
    Calls Tryd.prog 19 #[.string (q.extract a q.size), .string ⟨#[58]⟩] w fun e w' => e = .returned (.bool b) ∧ w' = w := by
  refine (Tryd.strings_HasPrefix _ _ _).mono ?_
  rintro e w' ⟨rfl, rfl⟩
  refine ⟨?_, rfl⟩
  have hs := size_ext q a ha
  have : Lib.hasPrefix (q.extract a q.size).data.toList [58] = b := by
    rw [pre58, ← hb]
    by_cases h : a < q.size
    · obtain ⟨x, h1, h2⟩ := list_bt (q.extract a q.size) 0 (by omega)
      rw [h1]
      rw [bt_extract q a q.size 0 (by omega) (Nat.le_refl _), Nat.add_zero] at h2
      rw [h2, Bool.eq_iff_iff]
      simp [h]
      constructor
      · intro e; subst e; rfl
      · intro e; exact UInt8.toNat_inj.1 (by simp; omega)
    · have : (q.extract a q.size).data.toList = [] := by
        apply List.eq_nil_of_length_eq_zero; rw [← Lib.size_eq]; omega
      rw [this]; simp [h]
  rw [show (({ data := #[58] } : ByteArray)).data.toList = [58] from rfl, this]
theorem c20 (q : ByteArray) (a : Nat) (w : World) (k : Int) (hk : ixb q a 93 = k) :
    Calls Tryd.prog 20 #[.string (q.extract a q.size), .int .u8 93] w fun e w' => e = .returned (.int .i64 k) ∧ w' = w := by
  refine (Tryd.strings_IndexByte _ _ _).mono ?_
  rintro e w' ⟨rfl, rfl⟩
  exact ⟨by rw [← hk]; rfl, rfl⟩
theorem c21 (q : ByteArray) (i k : Nat) (w : World) (hq : i + 2 + k ≤ q.size) (hs : q.size ≤ 9223372036854775807) (b : Bool) (hb : cis q i k = b) :
    Calls Tryd.prog 21 #[.string (q.extract (i + 2) (i + 2 + k)), .string ⟨#[58]⟩] w fun e w' => e = .returned (.tuple #[.string (cname q i k), .bool b]) ∧ w' = w := by
  refine (Tryd.strings_CutSuffix _ _ _ (by simp [ByteArray.size_extract]; omega)).mono ?_
  rintro e w' ⟨rfl, rfl⟩
  exact ⟨by rw [← hb]; rfl, rfl⟩
theorem c22 (n : ByteArray) (c : Int) (w : World) (h0 : 0 ≤ c) (h1 : c ≤ 255) (a b : Bool) (ha : (icF n.toList c).1 = a) (hb : (icF n.toList c).2 = b) :
    Calls Tryd.prog 22 #[.string n, .int .u8 c] w fun e w' => e = .returned (.tuple #[.bool a, .bool b]) ∧ w' = w := by
  rw [← ha, ← hb]; exact inClass_any n c w h0 h1
theorem hid {p : Prop} (h : p) : Hid p := h
theorem ret3 {R : Bool × Int × Bool} {a c : Bool} {b : Int} (h : R = (a, b, c)) : Ending.returned (.tuple #[.bool a, .int .i64 b, .bool c]) = .returned (.tuple #[.bool R.1, .int .i64 R.2.1, .bool R.2.2]) := by rw [h]

set_option maxRecDepth 100000 in
set_option maxHeartbeats 20000000 in
theorem ms_any (q : ByteArray) (c : Int) (w : World) (hq : q.size ≤ 256) (h0 : 0 ≤ c) (h1 : c ≤ 255) (R : Bool × Int × Bool) (HR : Hid (ms q c = R)) (neg : Bool) (HN : Hid (msNeg q = neg)) :
    Calls Tryd.prog 16 #[.string q, .int .u8 c] w fun e w' => e = .returned (.tuple #[.bool R.1, .int .i64 R.2.1, .bool R.2.2]) ∧ w' = w := by
  have hb1 := get_bt q
  have hS0 : St q c neg R (if neg then 2 else 1) false 0 false true := by
    have := St.start q c
    rw [HN.out, HR.out] at this
    exact this
  go_enter Tryd.func16, Tryd.ntmps16
  go_upto_region 2 with fail
  go_cut [8] (fun n w' => n = .bool neg ∧ w' = w)
  case first =>
    by_cases n1 : 1 < q.size
    · by_cases n2 : bt q 1 = 33
      · have HE : Hid (neg = true) := by show neg = true; rw [← HN.out]; simp [msNeg, n1, n2]
        go_wp2
        go_meet
        case rel => exact ⟨by rw [HE.out], rfl⟩
      · have HE : Hid (neg = (bt q 1 == 33 || bt q 1 == 94)) := by show neg = _; rw [← HN.out]; simp [msNeg, n1]
        go_wp2
        go_meet
        case rel => exact ⟨by rw [HE.out], rfl⟩
    · have HE : Hid (neg = false) := by show neg = false; rw [← HN.out]; simp [msNeg, n1]
      go_wp2
      go_meet
      case rel => exact ⟨by rw [HE.out], rfl⟩
  case rest =>
    obtain ⟨rfl, rfl⟩ := hcut
    go_upto_if 34 with fail
    go_cut [7] (fun vi w' => ∃ i : Nat, 1 ≤ i ∧ i ≤ 2 ∧ vi = .int .i64 i ∧ St q c neg R i false 0 false true ∧ w' = wc)
    case first =>
      clear HN HR
      cases neg
      · go_wp2
        go_meet
        case rel => exact ⟨1, by omega, by omega, rfl, hS0, rfl⟩
      · go_wp2
        go_meet
        case rel => exact ⟨2, by omega, by omega, rfl, hS0, rfl⟩
    case rest =>
      obtain ⟨i0, hi1, hi2, rfl, hS, rfl⟩ := hcut
      clear hS0 HN HR
      go_wp2
      go_loop [4, 7, 9, 10, 11] (fun vin vi vl vh vf => ∃ (i : Nat) (inn : Bool) (last : Int) (hl first : Bool), 1 ≤ i ∧ 0 ≤ last ∧ last ≤ 255 ∧ St q c neg R i inn last hl first ∧ vin = .bool inn ∧ vi = .int .i64 i ∧ vl = .int .u8 last ∧ vh = .bool hl ∧ vf = .bool first) (fun _ i _ _ _ => q.size + 1 - (intOf i).toNat)
      case atStart => exact ⟨i0, false, 0, false, true, hi1, by omega, by omega, hS, rfl, rfl, rfl, rfl, rfl⟩
      case round =>
        clear hi1 hi2 hS
        obtain ⟨i, inn, last, hl, first, i1, l0, l1, hS, rfl, rfl, rfl, rfl, rfl⟩ := hrel
        by_cases hi : q.size ≤ i
        · have HF : Hid (R = _) := hS.done hi
          as_aux_lemma =>
            go_wp2
            go_ret3
            exact ⟨ret3 HF.out, rfl⟩
        have hi' : i < q.size := by omega
        clear hi
        by_cases b93 : bt q i = 93 ∧ first = false
        · obtain ⟨hb, rfl⟩ := b93
          have HF : Hid (R = _) := hS.close hi' hb rfl
          as_aux_lemma =>
            go_wp2
            go_ret3
            exact ⟨ret3 HF.out, rfl⟩
        by_cases b92 : bt q i = 92
        · by_cases hn : i + 1 < q.size
          · have g0 := bt_nonneg q (i + 1)
            have g1 := bt_le q (i + 1)
            cases inn
            all_goals
              have HS := hS.esc hi' b92 hn rfl
              clear hS b93
              as_aux_lemma =>
                go_wp2
                go_round
                case rel => exact ⟨i + 2, _, _, _, _, by omega, bt_nonneg q (i + 1), bt_le q (i + 1), HS, rfl, by go_num, rfl, rfl, rfl⟩
                case measure => simp [intOf]; omega
          · have HF : Hid (R = _) := hS.escEnd hi' b92 (by omega)
            clear b93
            as_aux_lemma =>
              go_wp2
              go_ret3
              exact ⟨ret3 HF.out, rfl⟩
        by_cases b45 : bt q i = 45 ∧ hl = true ∧ i + 1 < q.size ∧ bt q (i + 1) ≠ 93
        · obtain ⟨hb, rfl, hn, h93⟩ := b45
          clear b93 b92
          by_cases h92 : bt q (i + 1) = 92
          · by_cases hn2 : i + 2 < q.size
            · cases inn
              · by_cases hlc : last ≤ c
                · have HS := hS.rangeEsc hb rfl hn h92 hn2 (x := decide (c ≤ bt q (i + 2))) (by simp [hlc])
                  clear hS
                  as_aux_lemma =>
                    go_wp2
                    go_round
                    case rel => exact ⟨i + 3, _, _, _, _, by omega, l0, l1, HS, rfl, by go_num, rfl, rfl, rfl⟩
                    case measure => simp [intOf]; omega
                · have HS := hS.rangeEsc hb rfl hn h92 hn2 (x := false) (by simp [hlc])
                  clear hS
                  as_aux_lemma =>
                    go_wp2
                    go_round
                    case rel => exact ⟨i + 3, _, _, _, _, by omega, l0, l1, HS, rfl, by go_num, rfl, rfl, rfl⟩
                    case measure => simp [intOf]; omega
              · have HS := hS.rangeEsc hb rfl hn h92 hn2 rfl
                clear hS
                as_aux_lemma =>
                  go_wp2
                  go_round
                  case rel => exact ⟨i + 3, _, _, _, _, by omega, l0, l1, HS, rfl, by go_num, rfl, rfl, rfl⟩
                  case measure => simp [intOf]; omega
            · have HF : Hid (R = _) := hS.rangeEnd hb rfl hn h92 (by omega)
              as_aux_lemma =>
                go_wp2
                go_ret3
                exact ⟨ret3 HF.out, rfl⟩
          · cases inn
            · by_cases hlc : last ≤ c
              · have HS := hS.range hb rfl hn h92 h93 (x := decide (c ≤ bt q (i + 1))) (by simp [hlc])
                clear hS
                as_aux_lemma =>
                  go_wp2
                  go_round
                  case rel => exact ⟨i + 2, _, _, _, _, by omega, l0, l1, HS, rfl, by go_num, rfl, rfl, rfl⟩
                  case measure => simp [intOf]; omega
              · have HS := hS.range hb rfl hn h92 h93 (x := false) (by simp [hlc])
                clear hS
                as_aux_lemma =>
                  go_wp2
                  go_round
                  case rel => exact ⟨i + 2, _, _, _, _, by omega, l0, l1, HS, rfl, by go_num, rfl, rfl, rfl⟩
                  case measure => simp [intOf]; omega
            · have HS := hS.range hb rfl hn h92 h93 rfl
              clear hS
              as_aux_lemma =>
                go_wp2
                go_round
                case rel => exact ⟨i + 2, _, _, _, _, by omega, l0, l1, HS, rfl, by go_num, rfl, rfl, rfl⟩
                case measure => simp [intOf]; omega
        by_cases b91 : bt q i = 91 ∧ i + 1 < q.size ∧ bt q (i + 1) = 58
        · obtain ⟨hb, hn, h58⟩ := b91
          clear b93 b92 b45
          have H19 : Hid ((decide (i + 1 < q.size) && bt q (i + 1) == 58) = true) := by show _ = _; simp [hn, h58]
          rcases ixb_lt q (i + 2) 93 (by omega) with hx | ⟨k, hx, hk⟩
          · have H20 : Hid (ixb q (i + 2) 93 = -1) := hx
            have HF : Hid (R = _) := hS.clsEnd hb hn h58 hx
            clear hx hS
            as_aux_lemma =>
              go_wp2_with (first
                | (go_at_call 19; refine (c19 q (i + 1) _ (by omega) _ H19.out).mono ?_; rintro e w' ⟨rfl, rfl⟩)
                | (go_at_call 20; refine (c20 q (i + 2) _ _ H20.out).mono ?_; rintro e w' ⟨rfl, rfl⟩))
              go_ret3
              exact ⟨ret3 HF.out, rfl⟩
          · have H20 : Hid (ixb q (i + 2) 93 = k) := hx
            cases h6 : cis q i k with
            | false =>
              have H21 : Hid (cis q i k = false) := h6
              cases inn
              all_goals
                have HS := hS.clsNo hb hn h58 hx h6 rfl
                clear hx h6 hS
                as_aux_lemma =>
                  go_wp2_with (first
                    | (go_at_call 19; refine (c19 q (i + 1) _ (by omega) _ H19.out).mono ?_; rintro e w' ⟨rfl, rfl⟩)
                    | (go_at_call 20; refine (c20 q (i + 2) _ _ H20.out).mono ?_; rintro e w' ⟨rfl, rfl⟩)
                    | (go_at_call 21; refine (c21 q i k _ (by omega) (by omega) _ H21.out).mono ?_; rintro e w' ⟨rfl, rfl⟩))
                  go_round
                  case rel => exact ⟨i + 1, _, _, _, _, by omega, by omega, by omega, HS, rfl, by go_num, rfl, rfl, rfl⟩
                  case measure => simp [intOf]; omega
            | true =>
              have H21 : Hid (cis q i k = true) := h6
              cases h7 : (icF (cname q i k).toList c).2 with
              | false =>
                have HF : Hid (R = _) := hS.clsBad hb hn h58 hx h6 h7
                have H23 : Hid ((icF (cname q i k).toList c).2 = false) := h7
                clear hx h6 h7 hS
                as_aux_lemma =>
                  go_wp2_with (first
                    | (go_at_call 19; refine (c19 q (i + 1) _ (by omega) _ H19.out).mono ?_; rintro e w' ⟨rfl, rfl⟩)
                    | (go_at_call 20; refine (c20 q (i + 2) _ _ H20.out).mono ?_; rintro e w' ⟨rfl, rfl⟩)
                    | (go_at_call 21; refine (c21 q i k _ (by omega) (by omega) _ H21.out).mono ?_; rintro e w' ⟨rfl, rfl⟩)
                    | (go_at_call 22; refine (c22 (cname q i k) c _ h0 h1 _ _ rfl H23.out).mono ?_; rintro e w' ⟨rfl, rfl⟩))
                  go_ret3
                  exact ⟨ret3 HF.out, rfl⟩
              | true =>
                have H23 : Hid ((icF (cname q i k).toList c).2 = true) := h7
                cases inn
                all_goals
                  have HS := hS.cls hb hn h58 hx h6 h7 rfl
                  clear hx h6 h7 hS
                  as_aux_lemma =>
                    go_wp2_with (first
                      | (go_at_call 19; refine (c19 q (i + 1) _ (by omega) _ H19.out).mono ?_; rintro e w' ⟨rfl, rfl⟩)
                      | (go_at_call 20; refine (c20 q (i + 2) _ _ H20.out).mono ?_; rintro e w' ⟨rfl, rfl⟩)
                      | (go_at_call 21; refine (c21 q i k _ (by omega) (by omega) _ H21.out).mono ?_; rintro e w' ⟨rfl, rfl⟩)
                      | (go_at_call 22; refine (c22 (cname q i k) c _ h0 h1 _ _ rfl H23.out).mono ?_; rintro e w' ⟨rfl, rfl⟩))
                    go_round
                    case rel => exact ⟨i + 2 + k + 1, _, _, _, _, by omega, l0, l1, HS, rfl, by go_num, rfl, rfl, rfl⟩
                    case measure => simp [intOf]; omega
        have g0 := bt_nonneg q i
        have g1 := bt_le q i
        have HT := hS.plain hi' b93 b92 b45 b91 rfl
        have H19 : Hid (bt q i = 91 → (decide (i + 1 < q.size) && bt q (i + 1) == 58) = false) := by
          intro h; by_cases h5 : i + 1 < q.size
          · have : ¬ bt q (i + 1) = 58 := fun h6 => b91 ⟨h, h5, h6⟩
            simp [h5, this]
          · simp [h5]
        clear hS b91
        rcases (show (bt q i = 93 ∧ first = true) ∨ (bt q i = 45 ∧ hl = false) ∨ (bt q i = 45 ∧ hl = true ∧ q.size ≤ i + 1) ∨ (bt q i = 45 ∧ hl = true ∧ i + 1 < q.size ∧ bt q (i + 1) = 93) ∨ bt q i = 91 ∨ (bt q i ≠ 93 ∧ bt q i ≠ 45 ∧ bt q i ≠ 91) by
          by_cases h93 : bt q i = 93
          · left; refine ⟨h93, ?_⟩; cases first
            · exact absurd ⟨h93, rfl⟩ b93
            · rfl
          · by_cases h45 : bt q i = 45
            · cases hl
              · exact .inr (.inl ⟨h45, rfl⟩)
              · by_cases h5 : i + 1 < q.size
                · refine .inr (.inr (.inr (.inl ⟨h45, rfl, h5, ?_⟩)))
                  by_cases h6 : bt q (i + 1) = 93
                  · exact h6
                  · exact absurd ⟨h45, rfl, h5, h6⟩ b45
                · exact .inr (.inr (.inl ⟨h45, rfl, by omega⟩))
            · by_cases h91 : bt q i = 91
              · exact .inr (.inr (.inr (.inr (.inl h91))))
              · exact .inr (.inr (.inr (.inr (.inr ⟨h93, h45, h91⟩))))) with ⟨hb, rfl⟩ | ⟨hb, rfl⟩ | ⟨hb, rfl, hx⟩ | ⟨hb, rfl, hx, hy⟩ | hb | ⟨x93, x45, x91⟩
        · clear b93 b92 b45
          cases inn
          all_goals
            rw [hb] at HT
            as_aux_lemma =>
              go_wp2
              go_round
              case rel => exact ⟨i + 1, _, _, _, _, by omega, by omega, by omega, HT, rfl, by go_num, rfl, rfl, rfl⟩
              case measure => simp [intOf]; omega
        · clear b93 b92 b45
          cases inn
          all_goals
            rw [hb] at HT
            as_aux_lemma =>
              go_wp2
              go_round
              case rel => exact ⟨i + 1, _, _, _, _, by omega, by omega, by omega, HT, rfl, by go_num, rfl, rfl, rfl⟩
              case measure => simp [intOf]; omega
        · clear b93 b92 b45
          cases inn
          all_goals
            rw [hb] at HT
            as_aux_lemma =>
              go_wp2
              go_round
              case rel => exact ⟨i + 1, _, _, _, _, by omega, by omega, by omega, HT, rfl, by go_num, rfl, rfl, rfl⟩
              case measure => simp [intOf]; omega
        · clear b93 b92 b45
          cases inn
          all_goals
            rw [hb] at HT
            as_aux_lemma =>
              go_wp2
              go_round
              case rel => exact ⟨i + 1, _, _, _, _, by omega, by omega, by omega, HT, rfl, by go_num, rfl, rfl, rfl⟩
              case measure => simp [intOf]; omega
        · have H9 := hid (H19.out hb)
          clear b93 b92 b45
          cases inn
          all_goals
            rw [hb] at HT
            as_aux_lemma =>
              go_wp2_with (go_at_call 19; refine (c19 q (i + 1) _ (by omega) _ H9.out).mono ?_; rintro e w' ⟨rfl, rfl⟩)
              go_round
              case rel => exact ⟨i + 1, _, _, _, _, by omega, by omega, by omega, HT, rfl, by go_num, rfl, rfl, rfl⟩
              case measure => simp [intOf]; omega
        · clear b93 b45
          cases inn
          all_goals
            skip
            as_aux_lemma =>
              go_wp2
              go_round
              case rel => exact ⟨i + 1, _, _, _, _, by omega, g0, g1, HT, rfl, by go_num, rfl, rfl, rfl⟩
              case measure => simp [intOf]; omega
end Go.Proofs.Qxb6603394aDoor
