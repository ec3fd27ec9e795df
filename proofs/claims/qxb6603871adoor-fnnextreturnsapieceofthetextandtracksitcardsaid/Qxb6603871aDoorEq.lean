import Derived.Test.Qxb6603871aDoorSf
import Derived.Test.Qxb6603871aDoorShelf
import Derived.ScopeJumps
import Derived.Laws.RangeAny
import Derived.Laws.Strings3
import Derived.Deep.DeepCutAuto
set_option linter.unusedVariables false
set_option linter.unusedSimpArgs false
namespace Go.Proofs.Qxb6603871aDoor
open Go.RowKit Go.PlainAid

theorem list_bt (q : ByteArray) (i : Nat) (h : i < q.size) : ∃ b : UInt8, q.data.toList[i]? = some b ∧ bt q i = b.toNat := by
  refine ⟨q[i], ?_, ?_⟩
  · rw [Array.getElem?_toList]; exact Array.getElem?_eq_getElem h
  · unfold bt; rw [dif_pos h]
theorem or_low (x y : Int) (h0 : 0 ≤ x) (h1 : x < 128) (h2 : 0 ≤ y) (h3 : y < 128) : decide ((128 : Int) ≤ bits .or .u8 x y) = false := by
  obtain ⟨a, rfl⟩ := Int.eq_ofNat_of_zero_le h0
  obtain ⟨b, rfl⟩ := Int.eq_ofNat_of_zero_le h2
  rw [u8_or_nat a b (by omega) (by omega)]
  have := Nat.or_lt_two_pow (n := 7) (show a < 2 ^ 7 by omega) (show b < 2 ^ 7 by omega)
  simp; omega
theorem or_high (x y : Int) (h0 : 128 ≤ x) (h1 : x ≤ 255) (h2 : 0 ≤ y) (h3 : y < 128) : decide ((128 : Int) ≤ bits .or .u8 x y) = true := by
  obtain ⟨a, rfl⟩ := Int.eq_ofNat_of_zero_le (show 0 ≤ x by omega)
  obtain ⟨b, rfl⟩ := Int.eq_ofNat_of_zero_le h2
  rw [u8_or_nat a b (by omega) (by omega)]
  have : a ≤ a ||| b := Nat.left_le_or
  simp; omega

set_option maxRecDepth 100000 in
set_option maxHeartbeats 20000000 in
theorem eq_any (s t : ByteArray) (w : World) (hs : s.size ≤ 1048576) (ht : t.size ≤ 16) (hkw : ∀ k, k < t.size → 65 ≤ bt t k ∧ bt t k ≤ 90) (hF : FoldTab w) (R : Bool) (HR : Hid (kw s t = R)) :
    Calls Tryd.prog 37 #[.string s, .string t] w fun e w' => e = .returned (.bool R) ∧ Below w.heap.size w w' := by
  have hb1 := get_bt s
  have hb2 := get_bt t
  have HKW := mkHid hkw
  have HF := mkHid hF
  clear hkw hF
  obtain ⟨M, hM⟩ : ∃ M : Nat, min (s.size : Int) (t.size : Int) = (M : Int) := ⟨min s.size t.size, by omega⟩
  have hMs : M ≤ s.size := by omega
  have hMt : M ≤ t.size := by omega
  have HMe := mkHid (show M = s.size ∨ M = t.size by omega)
  go_enter Tryd.func37, Tryd.ntmps37
  go_wp2
  refine wp_scope_jumps 0 (fun a' w' => w' = w ∧ ∃ i : Nat, i < s.size ∧ i < t.size ∧ (128 ≤ bt s i) ∧ Hid (kwS s t i i = R) ∧ ∃ u4 u6 u7 u8 u14 u15 u16 u17 u18 u19 u20 u21 u22 u23 u24 u25 u26 u27 u28 u29 u30 u31 u32 u33 u34 u35 u36 u37 u38 u39 u40 u41 u42 u43 u44 u45 u46 u47 u48 u49 u50 u51 u52 u53 u54 u55 u56 u57 u58 u59 : Value, a' = { tmps := #[.string s, .string t, undef, undef, u4, .int .i64 i, u6, u7, u8, undef, undef, undef, undef, undef, u14, u15, u16, u17, u18, u19, u20, u21, u22, u23, u24, u25, u26, u27, u28, u29, u30, u31, u32, u33, u34, u35, u36, u37, u38, u39, u40, u41, u42, u43, u44, u45, u46, u47, u48, u49, u50, u51, u52, u53, u54, u55, u56, u57, u58, u59, undef, undef, undef, undef, undef, undef, undef, undef, undef, undef, undef, undef, undef, undef, undef, undef, undef, undef, undef, undef, undef, undef, undef, undef, undef, undef, undef, undef, undef, undef, undef, undef, undef, undef, undef, undef, undef, undef, undef, undef, undef, undef, undef, undef, undef, undef, undef, undef, undef, undef, undef, undef, undef, undef, undef, undef, undef, undef, undef, undef, undef, undef, undef], defers := [] }) (fun _ _ => 0) rfl ?_ ?_
  · go_wp2
    go_loopg [5] M (fun g v wx => wx = w ∧ ∃ i : Nat, i + g = M ∧ v = .int .i64 i ∧ Hid (kwS s t i i = R))
    case atStart => exact ⟨rfl, 0, by omega, rfl, HR⟩
    case round =>
      clear HR hM
      obtain ⟨rfl, i, hig, rfl, HI⟩ := hrel
      by_cases hi : i < M
      · have hk := HKW.out i (by omega)
        have hy0 := hk.1
        have hy1 := hk.2
        clear hk
        have hx0 := bt_nonneg s i
        have hx1 := bt_le s i
        have his : i < s.size := by omega
        have hit : i < t.size := by omega
        by_cases hx : 128 ≤ bt s i
        · have hor := or_high (bt s i) (bt t i) hx hx1 (by omega) (by omega)
          as_aux_lemma =>
            go_wp2
            go_step3
            exact ⟨rfl, rfl, i, his, hit, hx, HI, _, _, _, _, _, _, _, _, _, _, _, _, _, _, _, _, _, _, _, _, _, _, _, _, _, _, _, _, _, _, _, _, _, _, _, _, _, _, _, _, _, _, _, _, _, _, _, _, _, _, rfl⟩
        · have hor := or_low (bt s i) (bt t i) hx0 (by omega) (by omega) (by omega)
          by_cases he : bt s i = bt t i
          · have HS : Hid (kwS s t (i + 1) (i + 1) = R) := by show _ = _; rw [← HI.out, kwS_yes hit his (.inl he)]
            have he1 : (bt t i == bt s i) = true := by simp [he]
            clear he
            as_aux_lemma =>
              go_wp2
              go_roundg (gk - 1)
              case measure => omega
              case rel => exact ⟨rfl, i + 1, by omega, by go_num, HS⟩
          · have he1 : (bt t i == bt s i) = false := by simp; omega
            by_cases hlt : bt t i < bt s i
            · by_cases h32 : bt s i = bt t i + 32
              · have HS : Hid (kwS s t (i + 1) (i + 1) = R) := by show _ = _; rw [← HI.out, kwS_yes hit his (.inr h32)]
                have h33 : (bt s i == bt t i + 32) = true := by simp [h32]
                have h34 : bt s i ≤ bt t i + 32 := by omega
                have h35 : bt t i + 32 ≤ bt s i := by omega
                clear he h32
                as_aux_lemma =>
                  go_wp2
                  go_roundg (gk - 1)
                  case measure => omega
                  case rel => exact ⟨rfl, i + 1, by omega, by go_num, HS⟩
              · have HS : Hid (false = R) := by show _ = _; rw [← HI.out, kwS_no hit (by omega) he h32]
                have h33 : (bt s i == bt t i + 32) = false := by simp [h32]
                clear he h32
                as_aux_lemma =>
                  go_wp2
                  simp only [Exit.jump]
                  go_ret
                  exact ⟨ret_bool HS.out, Below.refl _ _⟩
            · have HS : Hid (false = R) := by show _ = _; rw [← HI.out, kwS_no hit (by omega) he (by omega)]
              clear he
              by_cases h65 : 65 ≤ bt s i
              · as_aux_lemma =>
                  go_wp2
                  simp only [Exit.jump]
                  go_ret
                  exact ⟨ret_bool HS.out, Below.refl _ _⟩
              · as_aux_lemma =>
                  go_wp2
                  simp only [Exit.jump]
                  go_ret
                  exact ⟨ret_bool HS.out, Below.refl _ _⟩
      · have hiM : i = M := by omega
        subst hiM
        by_cases hst : s.size = t.size
        · have HS : Hid (true = R) := by
            show _ = _
            rw [← HI.out, kwS_end (by have := HMe.out; omega)]
            exact (decide_eq_true (by have := HMe.out; omega)).symm
          have hb : ((s.size : Int) == (t.size : Int)) = true := beq_iff_eq.2 (by omega)
          clear hst
          as_aux_lemma =>
            go_wp2
            simp only [Exit.jump]
            go_ret
            exact ⟨ret_bool HS.out, Below.refl _ _⟩
        · have HS : Hid (false = R) := by
            show _ = _
            rw [← HI.out]
            by_cases e : i < t.size
            · rw [kwS_past e (by have := HMe.out; omega)]
            · rw [kwS_end (by omega)]
              exact (decide_eq_false (by have := HMe.out; omega)).symm
          have hb : ((s.size : Int) == (t.size : Int)) = false := beq_eq_false_iff_ne.2 (by omega)
          clear hst
          as_aux_lemma =>
            go_wp2
            simp only [Exit.jump]
            go_ret
            exact ⟨ret_bool HS.out, Below.refl _ _⟩
  · rintro a' w' ⟨rfl, i, his, hit, hx, HI, u4, u6, u7, u8, u14, u15, u16, u17, u18, u19, u20, u21, u22, u23, u24, u25, u26, u27, u28, u29, u30, u31, u32, u33, u34, u35, u36, u37, u38, u39, u40, u41, u42, u43, u44, u45, u46, u47, u48, u49, u50, u51, u52, u53, u54, u55, u56, u57, u58, u59, rfl⟩
    clear HR hM HMe hMs hMt
    obtain ⟨S, hS⟩ : ∃ S, S = s.extract i s.size := ⟨_, rfl⟩
    have hSz : S.size = s.size - i := by rw [hS, size_ext s i (Nat.le_of_lt his)]
    have HSb : Hid (∀ q, bt S q = bt s (i + q)) := fun q => by rw [hS, bt_ext_all s i q (Nat.le_of_lt his)]
    have hz1 : S.size + i ≤ s.size := by omega
    have hz2 : s.size ≤ S.size + i := by omega
    have HS := mkHid hS
    clear hSz hx
    have hW := Below.refl w'.heap.size w'
    go_wp2
    rw [← HS.out]
    clear hS
    go_loopg [1] S.size (fun g v wr => ∃ (k q : Nat) (T : ByteArray), q ≤ S.size ∧ g = S.size - q ∧ k ≤ t.size ∧ v = .string T ∧ Hid (T = t.extract k t.size) ∧ wr = w'.iter S q ∧ Hid (kwS s t k (i + q) = R))
    case atStart => exact ⟨i, 0, _, Nat.zero_le _, rfl, Nat.le_of_lt hit, rfl, rfl, rfl, HI⟩
    case round =>
      clear HI
      obtain ⟨k, q, T, hq, rfl, hkt, rfl, HT, rfl, HI⟩ := hrel
      have hTz : T.size = t.size - k := by rw [HT.out, size_ext t k hkt]
      have hT1 : T.size + k ≤ t.size := by omega
      have hT2 : t.size ≤ T.size + k := by omega
      clear hTz
      have hBel : Below w'.heap.size w' (w'.iter S q) := (Below.refl _ _).alloc (Nat.le_refl _) _
      by_cases hqs : q < S.size
      · have HX : Hid (∀ ty, (Instr.next (.pointer (some ⟨w'.heap.size, 0, none⟩)) true ty).run Tryd.prog (w'.iter S q) = .ok (.tuple #[.bool true, .int .i64 q, .int .i32 (Utf8.decode S q).1]) (w'.iter S (q + (Utf8.decode S q).2))) := fun ty => run_next_any w' S q ty hqs
        by_cases hkl : k < t.size
        · have hTe : ((T.size : Int) == 0) = false := beq_eq_false_iff_ne.2 (by omega)
          obtain ⟨cn, hcn⟩ : ∃ cn : Nat, bt t k = cn := ⟨(bt t k).toNat, by have := bt_nonneg t k; omega⟩
          have hk := HKW.out k hkl
          have hc0 : 65 ≤ cn := by omega
          have hc1 : cn ≤ 90 := by omega
          have HCN := mkHid hcn
          have HD : Hid (∀ w, Calls Tryd.prog 41 #[.string T] w fun e w'' => e = .returned (.tuple #[.int .i32 cn, .int .i64 1]) ∧ w'' = w) := by
            intro w
            have hT0 : bt T 0 = cn := by rw [HT.out, bt_ext_all t k 0 hkt, Nat.add_zero, hcn]
            obtain ⟨x, x1, x2⟩ := list_bt T 0 (by omega)
            have hxc : x.toNat = cn := by omega
            refine (Tryd.utf8_DecodeRuneInString_ascii T x w x1 (by omega)).mono ?_
            rintro e w'' ⟨rfl, rfl⟩
            exact ⟨by rw [hxc], rfl⟩
          have HT' : Hid (T.extract 1 T.size = t.extract (k + 1) t.size) := by
            show _ = _; rw [HT.out, ext_ext t k 1 hkt, Nat.add_comm]
          clear hk hcn
          have hp : i + q < s.size := by omega
          by_cases hx : bt S q < 128
          · have hpb : bt s (i + q) = bt S q := (HSb.out q).symm
            obtain ⟨xn, hxn⟩ : ∃ xn : Nat, bt S q = xn := ⟨(bt S q).toNat, by have := bt_nonneg S q; omega⟩
            have hdec : Utf8.decode S q = (xn, 1) := by
              rw [decode_ascii S q hqs (by have := get_bt S q hqs; omega)]
              have := get_bt S q hqs
              congr 1; omega
            have hx128 : xn < 128 := by omega
            have hnx := HX.out
            rw [hdec] at hnx
            clear HX hdec
            by_cases he : xn = cn
            · have HF2 : Hid (kwS s t (k + 1) (i + (q + 1)) = R) := by show _ = _; rw [← HI.out, kwS_yes hkl hp (.inl (by have := HCN.out; omega))]; rfl
              have he1 : ((cn : Int) == (xn : Int)) = true := beq_iff_eq.2 (by omega)
              clear he hpb hxn hx
              as_aux_lemma =>
                go_wp2_with (go_at_call 41; refine (HD.out _).mono ?_; rintro e w2 ⟨rfl, rfl⟩)
                go_roundg (S.size - (q + 1))
                case measure => omega
                case rel => exact ⟨k + 1, q + 1, _, by omega, rfl, by omega, rfl, HT', rfl, HF2⟩
            · have he1 : ((cn : Int) == (xn : Int)) = false := beq_eq_false_iff_ne.2 (by omega)
              by_cases hlt : cn < xn
              · by_cases h32 : xn = cn + 32
                · have HF2 : Hid (kwS s t (k + 1) (i + (q + 1)) = R) := by show _ = _; rw [← HI.out, kwS_yes hkl hp (.inr (by have := HCN.out; omega))]; rfl
                  have h33 : ((xn : Int) == (cn : Int) + 32) = true := beq_iff_eq.2 (by omega)
                  clear he hpb hxn hx h32
                  as_aux_lemma =>
                    go_wp2_with (go_at_call 41; refine (HD.out _).mono ?_; rintro e w2 ⟨rfl, rfl⟩)
                    go_roundg (S.size - (q + 1))
                    case measure => omega
                    case rel => exact ⟨k + 1, q + 1, _, by omega, rfl, by omega, rfl, HT', rfl, HF2⟩
                · have HF2 : Hid (false = R) := by show _ = _; rw [← HI.out, kwS_no hkl (by omega) (by have := HCN.out; omega) (by have := HCN.out; omega)]
                  have h33 : ((xn : Int) == (cn : Int) + 32) = false := beq_eq_false_iff_ne.2 (by omega)
                  clear he hpb hxn hx h32
                  as_aux_lemma =>
                    go_wp2_with (go_at_call 41; refine (HD.out _).mono ?_; rintro e w2 ⟨rfl, rfl⟩)
                    simp only [Exit.jump]
                    go_ret
                    exact ⟨ret_bool HF2.out, (Below.refl _ _).alloc (Nat.le_refl _) _⟩
              · have HF2 : Hid (false = R) := by show _ = _; rw [← HI.out, kwS_no hkl (by omega) (by have := HCN.out; omega) (by have := HCN.out; omega)]
                clear he hpb hxn hx
                by_cases h65 : 65 ≤ xn
                · as_aux_lemma =>
                    go_wp2_with (go_at_call 41; refine (HD.out _).mono ?_; rintro e w2 ⟨rfl, rfl⟩)
                    simp only [Exit.jump]
                    go_ret
                    exact ⟨ret_bool HF2.out, (Below.refl _ _).alloc (Nat.le_refl _) _⟩
                · as_aux_lemma =>
                    go_wp2_with (go_at_call 41; refine (HD.out _).mono ?_; rintro e w2 ⟨rfl, rfl⟩)
                    simp only [Exit.jump]
                    go_ret
                    exact ⟨ret_bool HF2.out, (Below.refl _ _).alloc (Nat.le_refl _) _⟩
          · have hbp := (HSb.out q).symm
            obtain ⟨s1, s2, s3, s4, s5, s6, s7, s8⟩ := decode_spec S q hqs (by omega)
            have hnx := HX.out
            have b1 : bt S (q + 1) = bt s (i + q + 1) := HSb.out (q + 1)
            have b2 : bt S (q + 2) = bt s (i + q + 2) := HSb.out (q + 2)
            rcases hdec : Utf8.decode S q with ⟨rn, wd⟩
            rw [hdec] at hnx s1 s2 s3 s4 s5 s6 s7 s8
            simp only at s1 s2 s3 s4 s5 s6 s7 s8 hnx
            have hrc : ((cn : Int) == (rn : Int)) = false := beq_eq_false_iff_ne.2 (by omega)
            have HFT : Hid (∀ q', FoldTab (w'.iter S q')) := fun q' => HF.out.below ((Below.refl _ _).alloc (Nat.le_refl _) _)
            have HC1 : Hid (∀ q', Calls Tryd.prog 42 #[.int .i32 cn] (w'.iter S q') fun e w2 => e = .returned (.int .i32 ((cn + 32 : Nat) : Int)) ∧ w2 = w'.iter S q') := fun q' =>
              sf_ascii cn (cn + 32) _ (by omega) (by omega) ((HFT.out q').up cn hc0 hc1)
            by_cases c75 : cn = 75
            · subst c75
              have HC2 : Hid (∀ q', Calls Tryd.prog 42 #[.int .i32 107] (w'.iter S q') fun e w2 => e = .returned (.int .i32 8490) ∧ w2 = w'.iter S q') := fun q' =>
                sf_ascii 107 8490 _ (by omega) (by omega) (HFT.out q').k
              have HC3 : Hid (∀ q', Calls Tryd.prog 42 #[.int .i32 8490] (w'.iter S q') fun e w2 => e = .returned (.int .i32 75) ∧ w2 = w'.iter S q') := fun q' => (HFT.out q').sfk
              by_cases hr : rn = 8490
              · obtain ⟨t1, t2, t3, t4⟩ := s5 hr
                subst t1
                have HF2 : Hid (kwS s t (k + 1) (i + (q + 3)) = R) := by show _ = _; rw [← HI.out, kwS_K hkl HCN.out (by omega) (by omega) (by omega)]; rfl
                subst hr
                clear s5 s6 s7 s8 hbp b1 b2 t2 t3 t4 HX hdec hx
                as_aux_lemma =>
                  go_wp2_with (first
                    | (go_at_call 41; refine (HD.out _).mono ?_; rintro e w2 ⟨rfl, rfl⟩)
                    | (go_at_call 42; refine (HC1.out _).mono ?_; rintro e w2 ⟨rfl, rfl⟩))
                  refine wp_loop_rounds 4 ?_
                  rw [rounds_succ]
                  go_wp2_with (go_at_call 42; refine (HC2.out _).mono ?_; rintro e w2 ⟨rfl, rfl⟩)
                  rw [rounds_succ]
                  go_wp2
                  go_roundg (S.size - (q + 3))
                  case measure => omega
                  case rel => exact ⟨k + 1, q + 3, _, by omega, rfl, by omega, rfl, HT', rfl, HF2⟩
              · have HF2 : Hid (false = R) := by
                  show _ = _
                  rw [← HI.out, kwS_high hkl (by have := HCN.out; omega) (by omega) (fun e => by exact hr (s7 (by omega) (by omega) (by omega))) (fun e => by have := HCN.out; omega)]
                clear s5 s6 s7 s8 hbp b1 b2 HX hdec hx
                by_cases hlt : 8490 < rn
                · have hne : ((75 : Int) == (rn : Int)) = false := beq_eq_false_iff_ne.2 (by omega)
                  clear hr
                  as_aux_lemma =>
                    go_wp2_with (first
                      | (go_at_call 41; refine (HD.out _).mono ?_; rintro e w2 ⟨rfl, rfl⟩)
                      | (go_at_call 42; refine (HC1.out _).mono ?_; rintro e w2 ⟨rfl, rfl⟩))
                    refine wp_loop_rounds 4 ?_
                    rw [rounds_succ]
                    go_wp2_with (go_at_call 42; refine (HC2.out _).mono ?_; rintro e w2 ⟨rfl, rfl⟩)
                    rw [rounds_succ]
                    go_wp2_with (go_at_call 42; refine (HC3.out _).mono ?_; rintro e w2 ⟨rfl, rfl⟩)
                    rw [rounds_succ]
                    go_wp2
                    simp only [Exit.jump]
                    go_ret
                    exact ⟨ret_bool HF2.out, (Below.refl _ _).alloc (Nat.le_refl _) _⟩
                · have hne : ((8490 : Int) == (rn : Int)) = false := beq_eq_false_iff_ne.2 (by omega)
                  clear hr
                  as_aux_lemma =>
                    go_wp2_with (first
                      | (go_at_call 41; refine (HD.out _).mono ?_; rintro e w2 ⟨rfl, rfl⟩)
                      | (go_at_call 42; refine (HC1.out _).mono ?_; rintro e w2 ⟨rfl, rfl⟩))
                    refine wp_loop_rounds 4 ?_
                    rw [rounds_succ]
                    go_wp2_with (go_at_call 42; refine (HC2.out _).mono ?_; rintro e w2 ⟨rfl, rfl⟩)
                    rw [rounds_succ]
                    go_wp2
                    simp only [Exit.jump]
                    go_ret
                    exact ⟨ret_bool HF2.out, (Below.refl _ _).alloc (Nat.le_refl _) _⟩
            · by_cases c83 : cn = 83
              · subst c83
                have HC2 : Hid (∀ q', Calls Tryd.prog 42 #[.int .i32 115] (w'.iter S q') fun e w2 => e = .returned (.int .i32 383) ∧ w2 = w'.iter S q') := fun q' =>
                  sf_ascii 115 383 _ (by omega) (by omega) (HFT.out q').s
                have HC3 : Hid (∀ q', Calls Tryd.prog 42 #[.int .i32 383] (w'.iter S q') fun e w2 => e = .returned (.int .i32 83) ∧ w2 = w'.iter S q') := fun q' => (HFT.out q').sfs
                by_cases hr : rn = 383
                · obtain ⟨t1, t2, t3⟩ := s6 hr
                  subst t1
                  have HF2 : Hid (kwS s t (k + 1) (i + (q + 2)) = R) := by show _ = _; rw [← HI.out, kwS_S hkl HCN.out (by omega) (by omega)]; rfl
                  subst hr
                  clear s5 s6 s7 s8 hbp b1 b2 t2 t3 HX hdec hx
                  as_aux_lemma =>
                    go_wp2_with (first
                      | (go_at_call 41; refine (HD.out _).mono ?_; rintro e w2 ⟨rfl, rfl⟩)
                      | (go_at_call 42; refine (HC1.out _).mono ?_; rintro e w2 ⟨rfl, rfl⟩))
                    refine wp_loop_rounds 4 ?_
                    rw [rounds_succ]
                    go_wp2_with (go_at_call 42; refine (HC2.out _).mono ?_; rintro e w2 ⟨rfl, rfl⟩)
                    rw [rounds_succ]
                    go_wp2
                    go_roundg (S.size - (q + 2))
                    case measure => omega
                    case rel => exact ⟨k + 1, q + 2, _, by omega, rfl, by omega, rfl, HT', rfl, HF2⟩
                · have HF2 : Hid (false = R) := by
                    show _ = _
                    rw [← HI.out, kwS_high hkl (by have := HCN.out; omega) (by omega) (fun e => by have := HCN.out; omega) (fun e => by exact hr (s8 (by omega) (by omega)))]
                  clear s5 s6 s7 s8 hbp b1 b2 HX hdec hx
                  by_cases hlt : 383 < rn
                  · have hne : ((83 : Int) == (rn : Int)) = false := beq_eq_false_iff_ne.2 (by omega)
                    clear hr
                    as_aux_lemma =>
                      go_wp2_with (first
                        | (go_at_call 41; refine (HD.out _).mono ?_; rintro e w2 ⟨rfl, rfl⟩)
                        | (go_at_call 42; refine (HC1.out _).mono ?_; rintro e w2 ⟨rfl, rfl⟩))
                      refine wp_loop_rounds 4 ?_
                      rw [rounds_succ]
                      go_wp2_with (go_at_call 42; refine (HC2.out _).mono ?_; rintro e w2 ⟨rfl, rfl⟩)
                      rw [rounds_succ]
                      go_wp2_with (go_at_call 42; refine (HC3.out _).mono ?_; rintro e w2 ⟨rfl, rfl⟩)
                      rw [rounds_succ]
                      go_wp2
                      simp only [Exit.jump]
                      go_ret
                      exact ⟨ret_bool HF2.out, (Below.refl _ _).alloc (Nat.le_refl _) _⟩
                  · have hne : ((383 : Int) == (rn : Int)) = false := beq_eq_false_iff_ne.2 (by omega)
                    clear hr
                    as_aux_lemma =>
                      go_wp2_with (first
                        | (go_at_call 41; refine (HD.out _).mono ?_; rintro e w2 ⟨rfl, rfl⟩)
                        | (go_at_call 42; refine (HC1.out _).mono ?_; rintro e w2 ⟨rfl, rfl⟩))
                      refine wp_loop_rounds 4 ?_
                      rw [rounds_succ]
                      go_wp2_with (go_at_call 42; refine (HC2.out _).mono ?_; rintro e w2 ⟨rfl, rfl⟩)
                      rw [rounds_succ]
                      go_wp2
                      simp only [Exit.jump]
                      go_ret
                      exact ⟨ret_bool HF2.out, (Below.refl _ _).alloc (Nat.le_refl _) _⟩
              · have HC2 : Hid (∀ q', Calls Tryd.prog 42 #[.int .i32 ((cn : Int) + 32)] (w'.iter S q') fun e w2 => e = .returned (.int .i32 cn) ∧ w2 = w'.iter S q') := fun q' =>
                  sf_ascii (cn + 32) cn _ (by omega) (by omega) (by have := (HFT.out q').lo (cn + 32) (by omega) (by omega) (by omega) (by omega); rw [Nat.add_sub_cancel] at this; exact this)
                have HF2 : Hid (false = R) := by
                  show _ = _
                  rw [← HI.out, kwS_high hkl (by have := HCN.out; omega) (by omega) (fun e => by have := HCN.out; omega) (fun e => by have := HCN.out; omega)]
                have hrc2 : (((cn : Int) + 32) == (cn : Int)) = false := beq_eq_false_iff_ne.2 (by omega)
                have hrc3 : (((cn : Int) + 32) != (cn : Int)) = true := by rw [bne_iff_ne]; omega
                have hrc4 : ¬ ((cn : Int) + 32 = (cn : Int)) := by omega
                have hlt9 : (cn : Int) + 32 < (rn : Int) := by omega
                clear s5 s6 s7 s8 hbp b1 b2 HX hdec hx
                as_aux_lemma =>
                  go_wp2_with (first
                    | (go_at_call 41; refine (HD.out _).mono ?_; rintro e w2 ⟨rfl, rfl⟩)
                    | (go_at_call 42; refine (HC1.out _).mono ?_; rintro e w2 ⟨rfl, rfl⟩))
                  refine wp_loop_rounds 4 ?_
                  rw [rounds_succ]
                  go_wp2_with (go_at_call 42; refine (HC2.out _).mono ?_; rintro e w2 ⟨rfl, rfl⟩)
                  rw [rounds_succ]
                  go_wp2
                  simp only [Exit.jump]
                  go_ret
                  exact ⟨ret_bool HF2.out, (Below.refl _ _).alloc (Nat.le_refl _) _⟩
        · have hTe : ((T.size : Int) == 0) = true := beq_iff_eq.2 (by omega)
          have HF2 : Hid (false = R) := by show _ = _; rw [← HI.out, kwS_end (by omega)]; exact (decide_eq_false (by omega)).symm
          have hnx := HX.out
          generalize Utf8.decode S q = dc at hnx
          obtain ⟨rn, wd⟩ := dc
          clear HX
          as_aux_lemma =>
            go_wp2
            simp only [Exit.jump]
            go_ret
            exact ⟨ret_bool HF2.out, (Below.refl _ _).alloc (Nat.le_refl _) _⟩
      · have hnx : ∀ ty, (Instr.next (.pointer (some ⟨w'.heap.size, 0, none⟩)) true ty).run Tryd.prog (w'.iter S q) = .ok (.tuple #[.bool false]) (w'.iter S q) := fun ty => run_next_end w' S q ty hqs
        by_cases hkl : k < t.size
        · have hTe : ((T.size : Int) == 0) = false := beq_eq_false_iff_ne.2 (by omega)
          have HF2 : Hid (false = R) := by show _ = _; rw [← HI.out, kwS_past hkl (by omega)]
          as_aux_lemma =>
            go_wp2
            simp only [Exit.jump]
            go_ret
            exact ⟨ret_bool HF2.out, (Below.refl _ _).alloc (Nat.le_refl _) _⟩
        · have hTe : ((T.size : Int) == 0) = true := beq_iff_eq.2 (by omega)
          have HF2 : Hid (true = R) := by show _ = _; rw [← HI.out, kwS_end (by omega)]; exact (decide_eq_true (by omega)).symm
          as_aux_lemma =>
            go_wp2
            simp only [Exit.jump]
            go_ret
            exact ⟨ret_bool HF2.out, (Below.refl _ _).alloc (Nat.le_refl _) _⟩
end Go.Proofs.Qxb6603871aDoor
