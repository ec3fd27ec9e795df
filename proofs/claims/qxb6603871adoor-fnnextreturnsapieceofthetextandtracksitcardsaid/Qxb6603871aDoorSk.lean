import Derived.Test.Qxb6603871aDoorQd
import Derived.Lib.IndexLaws
set_option linter.unusedVariables false
set_option linter.unusedSimpArgs false
namespace Go.Proofs.Qxb6603871aDoor
open Go.RowKit Go.PlainAid

theorem Drw.lt {w w' : World} (h : Drw w w') {b : Nat} (hb : b < w.heap.size) : b < w'.heap.size := Nat.lt_of_lt_of_le hb h.below.size
/-- at, in whatever world behind draws. -/
theorem at_ax (s t : ByteArray) (L : Lx) (b : Nat) (W0 W w : World) (p : Nat) (hs : L.sql = s) (hA : Ax L b W0 W p w) (hp : p ≤ s.size) (hz : s.size ≤ 1048576) :
    ∃ r : Bool, (r = true → p + t.size ≤ s.size ∧ ∀ k, k < t.size → bt s (p + k) = bt t k) ∧ ∀ w', Drw w w' → Calls Tryd.prog 26 #[.pointer (some ⟨b, 0, none⟩), .string t] w' fun e w'' => e = .returned (.bool r) ∧ Drw w w'' :=
  ⟨_, fun h => pre_bt s t p hp h, fun w' hd => (at_any s t p b w' ((hA.drw hd).c0 hs) (hA.drw hd).c1 hp hz _ rfl).mono fun e w'' ⟨h1, h2⟩ => ⟨h1, hd.trans h2⟩⟩

set_option maxRecDepth 100000 in
set_option maxHeartbeats 4000000 in
theorem alc_any (s : ByteArray) (L : Lx) (b : Nat) (W0 W w : World) (p : Nat) (hs : L.sql = s) (hA : Ax L b W0 W p w) (hp : p < s.size) (hz : s.size ≤ 1048576) :
    Calls Tryd.prog 27 #[.pointer (some ⟨b, 0, none⟩)] w fun e w' => (∃ r, e = .returned (.bool r)) ∧ Drw w w' := by
  obtain ⟨r, hr, hAt⟩ := at_ax s ⟨#[45, 45]⟩ L b W0 W w p hs hA (by omega) hz
  have HAt := mkHid hAt
  have HR := mkHid hr
  have HA := mkHid hA
  have HS := mkHid hs
  have c0 := hA.c0 hs
  have c1 := hA.c1
  have c2 := hA.c2
  have hbt := get_bt s
  clear hs hA hAt hr
  have tail : ∀ w', Drw w w' → Ax L b W0 W p w' := fun w' h => HA.out.drw h
  have HT := mkHid tail
  clear tail
  cases hk3 : (L.kind == 3)
  · have hn3 : ¬ L.kind = 3 := by simpa using hk3
    go_enter Tryd.func27, Tryd.ntmps27
    go_wp2_with fail
    go_quiet (fail)
    go_wp2_with fail
    refine (HAt.out _ (by first | exact Drw.refl _ | exact ⟨_, rfl⟩)).mono ?_
    rintro e w2 ⟨rfl, hd⟩
    clear c0 c1 c2 HAt
    have c0 := (HT.out w2 hd).c0 HS.out
    have c1 := (HT.out w2 hd).c1
    have c2 := (HT.out w2 hd).c2
    have HD := mkHid hd
    clear hd
    cases r
    · go_wp2
      all_goals (go_ret; exact ⟨⟨_, rfl⟩, HD.out⟩)
    · have hp2 := (HR.out rfl).1
      have hsz : (⟨#[45, 45]⟩ : ByteArray).size = 2 := rfl
      rw [hsz] at hp2
      clear HR hsz
      cases hk2 : (L.kind == 2)
      · by_cases he : p + 2 = s.size
        · have heb : ((p : Int) + 2 == (s.size : Int)) = true := beq_iff_eq.2 (by omega)
          have HE := mkHid he
          clear he
          go_wp2_with fail
          go_quiet (fail)
          go_wp2
          all_goals (go_ret; exact ⟨⟨_, rfl⟩, HD.out.drew _⟩)
        · have heb : ((p : Int) + 2 == (s.size : Int)) = false := beq_eq_false_iff_ne.2 (by omega)
          have hlt : p + 2 < s.size := by omega
          clear he
          go_wp2_with fail
          go_quiet (fail)
          go_wp2
          all_goals (go_ret; exact ⟨⟨_, rfl⟩, HD.out.drew _⟩)
      · go_wp2
        all_goals (go_ret; exact ⟨⟨_, rfl⟩, HD.out⟩)
  · cases h35 : (bt s p == 35)
    · skip
      go_enter Tryd.func27, Tryd.ntmps27
      go_wp2_with fail
      go_quiet (fail)
      go_wp2_with fail
      refine (HAt.out _ (by first | exact Drw.refl _ | exact ⟨_, rfl⟩)).mono ?_
      rintro e w2 ⟨rfl, hd⟩
      clear c0 c1 c2 HAt
      have c0 := (HT.out w2 hd).c0 HS.out
      have c1 := (HT.out w2 hd).c1
      have c2 := (HT.out w2 hd).c2
      have HD := mkHid hd
      clear hd
      cases r
      · go_wp2
        all_goals (go_ret; exact ⟨⟨_, rfl⟩, HD.out⟩)
      · have hp2 := (HR.out rfl).1
        have hsz : (⟨#[45, 45]⟩ : ByteArray).size = 2 := rfl
        rw [hsz] at hp2
        clear HR hsz
        cases hk2 : (L.kind == 2)
        · by_cases he : p + 2 = s.size
          · have heb : ((p : Int) + 2 == (s.size : Int)) = true := beq_iff_eq.2 (by omega)
            have HE := mkHid he
            clear he
            go_wp2_with fail
            go_quiet (fail)
            go_wp2
            all_goals (go_ret; exact ⟨⟨_, rfl⟩, HD.out.drew _⟩)
          · have heb : ((p : Int) + 2 == (s.size : Int)) = false := beq_eq_false_iff_ne.2 (by omega)
            have hlt : p + 2 < s.size := by omega
            clear he
            go_wp2_with fail
            go_quiet (fail)
            go_wp2
            all_goals (go_ret; exact ⟨⟨_, rfl⟩, HD.out.drew _⟩)
        · go_wp2
          all_goals (go_ret; exact ⟨⟨_, rfl⟩, HD.out⟩)
    · clear HAt
      go_enter Tryd.func27, Tryd.ntmps27
      go_wp2_with fail
      go_quiet (fail)
      go_wp2
      all_goals (go_ret; exact ⟨⟨_, rfl⟩, ⟨_, rfl⟩⟩)

set_option maxRecDepth 100000 in
set_option maxHeartbeats 4000000 in
theorem skip_any (s : ByteArray) (L : Lx) (b : Nat) (W0 W w : World) (p : Nat) (hs : L.sql = s) (hA : Ax L b W0 W p w) (hp : p < s.size) (hz : s.size ≤ 1048576) :
    Calls Tryd.prog 28 #[.pointer (some ⟨b, 0, none⟩)] w fun e w' => e = .returned (.tuple #[]) ∧ ∃ j, p < j ∧ j ≤ s.size ∧ Ax L b W0 W j w' := by
  have c0 := hA.c0 hs
  have c1 := hA.c1
  have f1 := hA.f1
  obtain ⟨k, hk⟩ : ∃ k, Lib.indexByte (s.extract p s.size).data.toList 10 = k := ⟨_, rfl⟩
  have HC : Hid (∀ w, Calls Tryd.prog 35 #[.string (s.extract p s.size), .int .u8 10] w fun e w' => e = .returned (.int .i64 k) ∧ w' = w) := fun w => by
    have := Tryd.strings_IndexByte (s.extract p s.size) 10 w
    rw [← hk]; exact this
  have hge := Lib.indexByte_ge (s.extract p s.size).data.toList 10
  rw [hk] at hge
  by_cases hk0 : 0 ≤ k
  · obtain ⟨m, rfl⟩ : ∃ m : Nat, k = m := ⟨k.toNat, by omega⟩
    have hm := (List.getElem?_eq_some_iff.1 (Lib.indexByte_some hk).1).1
    have hm2 : m < s.size - p := by
      have e : (s.extract p s.size).data.toList.length = s.size - p := by rw [← size_ext s p (by omega)]; simp
      omega
    have HA1 := mkHid (hA.set ((p : Int) + ((m : Int) + 1)) (p + (m + 1)) (by omega))
    clear hk hm hge hA
    go_enter Tryd.func28, Tryd.ntmps28
    go_wp2_with fail
    go_quiet ((go_at_call 35; exact Calls.quiet_of_same (HC.out _)))
    go_wp2_with fail
    go_returns
    exact ⟨rfl, p + (m + 1), by omega, by omega, HA1.out.drew _⟩
  · obtain rfl : k = -1 := by omega
    have HA1 := mkHid (hA.set (s.size : Int) s.size rfl)
    clear hk hge hA
    go_enter Tryd.func28, Tryd.ntmps28
    go_wp2_with fail
    go_quiet ((go_at_call 35; exact Calls.quiet_of_same (HC.out _)))
    go_wp2_with fail
    go_returns
    exact ⟨rfl, s.size, hp, Nat.le_refl _, HA1.out.drew _⟩
end Go.Proofs.Qxb6603871aDoor
