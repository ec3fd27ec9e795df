import Derived.Test.Qxb6603871aDoorRows
import Derived.Test.Qxb6603871aDoorSf
import Derived.ProofKit
import Derived.LaidMore
import Derived.Lib.LaidTab
import Derived.ChangeArms
import Derived.Lib.LaidU8
import Derived.Stop.LaidErr
set_option linter.unusedVariables false
set_option linter.unusedSimpArgs false
namespace Go.Proofs.Qxb6603871aDoor
open Go.ChangeShapes Go.WideShapes Go.ChangeAt Go.RowKit

/-- The rows' list, as all five bear it. -/
def laidL : List (String × DataW Unit) := Rows.fnTrackIsBlindToTheCaseOfItsWordRow.laid
def afZ : List Int := [0, 1, 2, 3, 4, 5, 6, 7, 8, 9, 10, 11, 12, 13, 14, 15, 16, 17, 18, 19, 20, 21, 22, 23, 24, 25, 26, 27, 28, 29, 30, 31, 32, 33, 34, 35, 36, 37, 38, 39, 40, 41, 42, 43, 44, 45, 46, 47, 48, 49, 50, 51, 52, 53, 54, 55, 56, 57, 58, 59, 60, 61, 62, 63, 64, 97, 98, 99, 100, 101, 102, 103, 104, 105, 106, 107, 108, 109, 110, 111, 112, 113, 114, 115, 116, 117, 118, 119, 120, 121, 122, 91, 92, 93, 94, 95, 96, 65, 66, 67, 68, 69, 70, 71, 72, 73, 74, 8490, 76, 77, 78, 79, 80, 81, 82, 383, 84, 85, 86, 87, 88, 89, 90, 123, 124, 125, 126, 127]
def coZ : List (Int × Int) := [(75, 107), (83, 115), (107, 8490), (115, 383), (181, 924), (197, 229), (223, 7838), (229, 8491), (304, 304), (305, 305), (383, 83), (452, 453), (453, 454), (454, 452), (455, 456), (456, 457), (457, 455), (458, 459), (459, 460), (460, 458), (497, 498), (498, 499), (499, 497), (837, 921), (912, 8147), (914, 946), (917, 949), (920, 952), (921, 953), (922, 954), (924, 956), (928, 960), (929, 961), (931, 962), (934, 966), (937, 969), (944, 8163), (946, 976), (949, 1013), (952, 977), (953, 8126), (954, 1008), (956, 181), (960, 982), (961, 1009), (962, 963), (963, 931), (966, 981), (969, 8486), (976, 914), (977, 1012), (981, 934), (982, 928), (1008, 922), (1009, 929), (1012, 920), (1013, 917), (1042, 1074), (1044, 1076), (1054, 1086), (1057, 1089), (1058, 1090), (1066, 1098), (1074, 7296), (1076, 7297), (1086, 7298), (1089, 7299), (1090, 7300), (1098, 7302), (1122, 1123), (1123, 7303), (7296, 1042), (7297, 1044), (7298, 1054), (7299, 1057), (7300, 7301), (7301, 1058), (7302, 1066), (7303, 1122), (7304, 42570), (7776, 7777), (7777, 7835), (7835, 7776), (7838, 223), (8126, 837), (8147, 912), (8163, 944), (8486, 937), (8490, 75), (8491, 197), (42570, 42571), (42571, 7304), (64261, 64262), (64262, 64261)]
set_option maxRecDepth 100000 in
theorem af_eq : Rows.laid_unicode_asciiFold (H := Unit) = Lib.tabData .u16 afZ := by kernel_rfl
set_option maxRecDepth 100000 in
theorem co_eq : Rows.laid_unicode_caseOrbit (H := Unit) = .slice (coZ.map fun x => .agg [.lit (.int .u16 x.1), .lit (.int .u16 x.2)]) [] := by kernel_rfl
theorem gAf : Tryd.prog.globalNamed "unicode.asciiFold" = some 1 := by kernel_rfl
theorem tAf : (Tryd.prog.globals[1]?).map (·.type) = some 56 := by kernel_rfl
theorem gCo : Tryd.prog.globalNamed "unicode.caseOrbit" = some 2 := by kernel_rfl
theorem tCo : (Tryd.prog.globals[2]?).map (·.type) = some 57 := by kernel_rfl
theorem c55 : Tryd.prog.cellsOf 55 = 1 := by kernel_rfl
theorem c56 : Tryd.prog.cellsOf 56 = 128 := by kernel_rfl
theorem c59 : Tryd.prog.cellsOf 59 = 2 := by kernel_rfl

theorem add_none (b o j : Nat) : (⟨b, o, none⟩ : Addr).add j = ⟨b, o + j, none⟩ := by unfold Addr.add; split <;> simp_all
set_option maxRecDepth 100000 in
theorem fold_of_laid {W : World} (h : laidMetH Tryd.prog laidL W) : FoldTab W := by
  rw [MakeChecks.laidMetH_plain _ _ _ (by kernel_rfl)] at h
  have h1 := laidMet.tail h
  have hT := Lib.tabIs_of_head (k := .u16) (zs := afZ) gAf tAf Tryd.underlying56 Tryd.underlying55 c55 c56 (by rw [← af_eq]; exact h1)
  have hlen : afZ.length = 128 := by kernel_rfl
  have h2 := h1.tail
  obtain ⟨ps, ⟨g, t, cs, fuel, p, q, hg, ht, hvar, hd, _⟩, _⟩ := h2
  obtain rfl := Option.some.inj (gCo.symm.trans hg)
  obtain rfl := Option.some.inj (tCo.symm.trans ht)
  rw [co_eq] at hd
  rcases DataW.trod_slice Tryd.underlying57 hd with ⟨_, hx'⟩ | ⟨a', len, cap, el, rs, m, rfl, hc0, hx', _, hlc, _, hel, helem, hsp, _⟩
  · cases hx'
  have e0 := congrArg Prod.fst hx'
  simp only [DataW.slice.injEq] at e0
  obtain ⟨eE, eR⟩ := e0
  have hcol : coZ.length = 94 := by kernel_rfl
  have hl94 : len = 94 := by
    have := congrArg List.length eE
    simp at this
    omega
  have hcap : cap = 94 := by
    have h3 := (hsp rfl).1
    have h4 := congrArg List.length eR
    simp at h4
    omega
  subst hl94 hcap
  have hrow : ∀ i (x : Int × Int), coZ[i]? = some x → W.cell? ((a'.add (i * 2)).add 0) = some (.int .u16 x.1) ∧ W.cell? ((a'.add (i * 2)).add 1) = some (.int .u16 x.2) := by
    intro i x hix
    obtain ⟨hi', hix'⟩ := List.getElem?_eq_some_iff.1 hix
    have hi : i < 94 := by omega
    have h5 := helem i hi
    rw [c59] at h5
    obtain ⟨b, hb⟩ : ∃ b, el[i]? = some b := ⟨el[i]'(by omega), List.getElem?_eq_getElem (by omega)⟩
    rw [hb] at h5
    obtain ⟨ce, hce, hte⟩ := Option.bind_eq_some_iff.1 h5
    have hb1 : b.1 = .agg [.lit (.int .u16 x.1), .lit (.int .u16 x.2)] := by
      have := congrArg (·[i]?) eE
      simp only [List.getElem?_map, hb, hix, Option.map_some, Option.some.injEq] at this
      exact this.symm
    obtain ⟨y0, y1, n, hy, hcl, f0, f1⟩ := trod_struct2 Tryd.underlying59 hte
    rw [hy] at hb1
    simp only [DataW.agg.injEq, List.cons.injEq, and_true] at hb1
    obtain ⟨g0, g1⟩ := hb1
    change DataW.trod _ _ _ _ _ _ _ 55 ((ce.drop 0).take (Tryd.prog.cellsOf 55)) = some y0 at f0
    change DataW.trod _ _ _ _ _ _ _ 55 ((ce.drop 1).take (Tryd.prog.cellsOf 55)) = some y1 at f1
    rw [c55] at f0 f1
    obtain ⟨z0, w0, v0, _⟩ := DataW.trod_int Tryd.underlying55 f0
    obtain ⟨z1, w1, v1, _⟩ := DataW.trod_int Tryd.underlying55 f1
    rw [v0] at g0
    rw [v1] at g1
    simp only [DataW.lit.injEq, Lit.int.injEq, true_and] at g0 g1
    subst g0 g1
    obtain ⟨_, _, hcc⟩ := World.cells?_some hce
    refine ⟨?_, ?_⟩
    · rw [hcc 0 (by omega)]
      have := congrArg (·[0]?) w0
      simpa [List.getElem?_take, List.getElem?_drop] using this
    · rw [hcc 1 (by omega)]
      have := congrArg (·[0]?) w1
      simpa [List.getElem?_take, List.getElem?_drop] using this
  obtain ⟨R, oR, sR⟩ := a'
  obtain rfl : sR = none := by
    have h00 := (hrow 0 (75, 107) (by kernel_rfl)).1
    have : (Addr.add (Addr.add ⟨R, oR, sR⟩ (0 * 2)) 0) = ⟨R, oR, sR⟩ := by simp [Addr.add]
    rw [this] at h00
    exact cell_spot h00
  have hadd : ∀ i j, ((Addr.add ⟨R, oR, none⟩ (i * 2)).add j) = ⟨R, oR + i * 2 + j, none⟩ := fun i j => by rw [add_none, add_none]
  refine ⟨fun c l1 l2 => ?_, fun c l1 l2 l3 l4 => ?_, ?_, ?_, R, oR, ?_, ?_, ?_, ?_, ?_, ?_, ?_, ?_, ?_, ?_, ?_, ?_, ?_, ?_, ?_, ?_⟩
  · rw [hT.cell gAf c (by omega)]
    have hall : ((List.range 91).all fun c => decide (c < 65) || decide (afZ.getD c 0 = ((c + 32 : Nat) : Int))) = true := by kernel_rfl
    have := List.all_eq_true.1 hall c (List.mem_range.2 (by omega))
    simp only [Bool.or_eq_true, decide_eq_true_eq] at this
    rcases this with e | e
    · omega
    · rw [e]
  · rw [hT.cell gAf c (by omega)]
    have hall : ((List.range 123).all fun c => decide (c < 97) || decide (c = 107) || decide (c = 115) || decide (afZ.getD c 0 = ((c - 32 : Nat) : Int))) = true := by kernel_rfl
    have := List.all_eq_true.1 hall c (List.mem_range.2 (by omega))
    simp only [Bool.or_eq_true, decide_eq_true_eq] at this
    rcases this with ((e | e) | e) | e
    · omega
    · omega
    · omega
    · rw [e]
  · exact hT.cell gAf 107 (by omega)
  · exact hT.cell gAf 115 (by omega)
  · rw [World.var?_cell hg hvar 0, ← Array.getElem?_toList, hc0]
    rfl
  · have := (hrow 5 (197, 229) (by kernel_rfl)).1; rw [hadd] at this; exact this
  · have := (hrow 8 (304, 304) (by kernel_rfl)).1; rw [hadd] at this; exact this
  · have := (hrow 9 (305, 305) (by kernel_rfl)).1; rw [hadd] at this; exact this
  · have := (hrow 10 (383, 83) (by kernel_rfl)).1; rw [hadd] at this; exact this
  · have := (hrow 11 (452, 453) (by kernel_rfl)).1; rw [hadd] at this; exact this
  · have := (hrow 23 (837, 921) (by kernel_rfl)).1; rw [hadd] at this; exact this
  · have := (hrow 47 (966, 981) (by kernel_rfl)).1; rw [hadd] at this; exact this
  · have := (hrow 71 (7296, 1042) (by kernel_rfl)).1; rw [hadd] at this; exact this
  · have := (hrow 83 (7838, 223) (by kernel_rfl)).1; rw [hadd] at this; exact this
  · have := (hrow 86 (8163, 944) (by kernel_rfl)).1; rw [hadd] at this; exact this
  · have := (hrow 87 (8486, 937) (by kernel_rfl)).1; rw [hadd] at this; exact this
  · have := (hrow 88 (8490, 75) (by kernel_rfl)).1; rw [hadd] at this; exact this
  · have := (hrow 89 (8491, 197) (by kernel_rfl)).1; rw [hadd] at this; exact this
  · have := (hrow 10 (383, 83) (by kernel_rfl)).2; rw [hadd] at this; exact this
  · have := (hrow 88 (8490, 75) (by kernel_rfl)).2; rw [hadd] at this; exact this
end Go.Proofs.Qxb6603871aDoor
