import Derived.Test.Qxb6603871aDoorProg
import Derived.Test.Qxb6603871aDoorKw
import Derived.WalkKit
import Derived.WalkSpells
import Derived.WalkLawsBesides
import Derived.Handy
set_option linter.unusedVariables false
set_option linter.unusedSimpArgs false
namespace Go.Proofs.Qxb6603871aDoor
open Go.RowKit Go.PlainAid

set_option maxRecDepth 100000 in
set_option maxHeartbeats 1000000 in
theorem sf_ascii (r : Nat) (v : Nat) (w : World) (hr : r < 128) (hv : v ≤ 65535) (hc : w.cell? ⟨1, r, none⟩ = some (.int .u16 v)) :
    Calls Tryd.prog 42 #[.int .i32 r] w fun e w' => e = .returned (.int .i32 v) ∧ w' = w := by
  go_enter Tryd.func42, Tryd.ntmps42
  go_wp2
  go_ret
  exact ⟨rfl, rfl⟩

set_option maxRecDepth 100000 in
set_option maxHeartbeats 4000000 in
theorem sf_s (b o : Nat) (w : World) (h0 : w.cell? ⟨2, 0, none⟩ = some (.slice (some ⟨b, o, none⟩) 94 94))
    (c47 : w.cell? ⟨b, o + 94, none⟩ = some (.int .u16 966)) (c23 : w.cell? ⟨b, o + 46, none⟩ = some (.int .u16 837)) (c11 : w.cell? ⟨b, o + 22, none⟩ = some (.int .u16 452)) (c5 : w.cell? ⟨b, o + 10, none⟩ = some (.int .u16 197)) (c8 : w.cell? ⟨b, o + 16, none⟩ = some (.int .u16 304)) (c10 : w.cell? ⟨b, o + 20, none⟩ = some (.int .u16 383)) (c9 : w.cell? ⟨b, o + 18, none⟩ = some (.int .u16 305)) (d10 : w.cell? ⟨b, o + 21, none⟩ = some (.int .u16 83)) :
    Calls Tryd.prog 42 #[.int .i32 383] w fun e w' => e = .returned (.int .i32 83) ∧ w' = w := by
  go_enter Tryd.func42, Tryd.ntmps42
  go_wp2
  go_rounds 8
  go_ret
  exact ⟨rfl, rfl⟩

set_option maxRecDepth 100000 in
set_option maxHeartbeats 4000000 in
theorem sf_k (b o : Nat) (w : World) (h0 : w.cell? ⟨2, 0, none⟩ = some (.slice (some ⟨b, o, none⟩) 94 94))
    (c47 : w.cell? ⟨b, o + 94, none⟩ = some (.int .u16 966)) (c71 : w.cell? ⟨b, o + 142, none⟩ = some (.int .u16 7296)) (c83 : w.cell? ⟨b, o + 166, none⟩ = some (.int .u16 7838)) (c89 : w.cell? ⟨b, o + 178, none⟩ = some (.int .u16 8491)) (c86 : w.cell? ⟨b, o + 172, none⟩ = some (.int .u16 8163)) (c88 : w.cell? ⟨b, o + 176, none⟩ = some (.int .u16 8490)) (c87 : w.cell? ⟨b, o + 174, none⟩ = some (.int .u16 8486)) (d88 : w.cell? ⟨b, o + 177, none⟩ = some (.int .u16 75)) :
    Calls Tryd.prog 42 #[.int .i32 8490] w fun e w' => e = .returned (.int .i32 75) ∧ w' = w := by
  go_enter Tryd.func42, Tryd.ntmps42
  go_wp2
  go_rounds 8
  go_ret
  exact ⟨rfl, rfl⟩

/-- What the walks read of unicode's two small tables. -/
structure FoldTab (w : World) : Prop where
  up : ∀ c : Nat, 65 ≤ c → c ≤ 90 → w.cell? ⟨1, c, none⟩ = some (.int .u16 ((c + 32 : Nat) : Int))
  lo : ∀ c : Nat, 97 ≤ c → c ≤ 122 → c ≠ 107 → c ≠ 115 → w.cell? ⟨1, c, none⟩ = some (.int .u16 ((c - 32 : Nat) : Int))
  k : w.cell? ⟨1, 107, none⟩ = some (.int .u16 ((8490 : Nat) : Int))
  s : w.cell? ⟨1, 115, none⟩ = some (.int .u16 ((383 : Nat) : Int))
  orb : ∃ b o : Nat, w.cell? ⟨2, 0, none⟩ = some (.slice (some ⟨b, o, none⟩) 94 94) ∧ w.cell? ⟨b, o + 10, none⟩ = some (.int .u16 197) ∧ w.cell? ⟨b, o + 16, none⟩ = some (.int .u16 304) ∧ w.cell? ⟨b, o + 18, none⟩ = some (.int .u16 305) ∧ w.cell? ⟨b, o + 20, none⟩ = some (.int .u16 383) ∧ w.cell? ⟨b, o + 22, none⟩ = some (.int .u16 452) ∧ w.cell? ⟨b, o + 46, none⟩ = some (.int .u16 837) ∧ w.cell? ⟨b, o + 94, none⟩ = some (.int .u16 966) ∧ w.cell? ⟨b, o + 142, none⟩ = some (.int .u16 7296) ∧ w.cell? ⟨b, o + 166, none⟩ = some (.int .u16 7838) ∧ w.cell? ⟨b, o + 172, none⟩ = some (.int .u16 8163) ∧ w.cell? ⟨b, o + 174, none⟩ = some (.int .u16 8486) ∧ w.cell? ⟨b, o + 176, none⟩ = some (.int .u16 8490) ∧ w.cell? ⟨b, o + 178, none⟩ = some (.int .u16 8491) ∧ w.cell? ⟨b, o + 21, none⟩ = some (.int .u16 83) ∧ w.cell? ⟨b, o + 177, none⟩ = some (.int .u16 75)
theorem FoldTab.sfs {w : World} (h : FoldTab w) : Calls Tryd.prog 42 #[.int .i32 383] w fun e w' => e = .returned (.int .i32 83) ∧ w' = w := by
  obtain ⟨b, o, h0, c5, c8, c9, c10, c11, c23, c47, c71, c83, c86, c87, c88, c89, d10, d88⟩ := h.orb
  exact sf_s b o w h0 c47 c23 c11 c5 c8 c10 c9 d10
theorem FoldTab.sfk {w : World} (h : FoldTab w) : Calls Tryd.prog 42 #[.int .i32 8490] w fun e w' => e = .returned (.int .i32 75) ∧ w' = w := by
  obtain ⟨b, o, h0, c5, c8, c9, c10, c11, c23, c47, c71, c83, c86, c87, c88, c89, d10, d88⟩ := h.orb
  exact sf_k b o w h0 c47 c71 c83 c89 c86 c88 c87 d88
theorem block_of_cell {w : World} {a : Addr} {v : Value} (h : w.cell? a = some v) : a.block < w.heap.size := by
  unfold World.cell? at h
  by_cases e : a.block < w.heap.size
  · exact e
  · rw [Array.getElem?_eq_none (by omega)] at h; cases h
theorem cell_below {W w : World} (hb : Below W.heap.size W w) {a : Addr} {v : Value} (h : W.cell? a = some v) : w.cell? a = some v := (hb.cell (block_of_cell h)).trans h
theorem FoldTab.below {W w : World} (h : FoldTab W) (hb : Below W.heap.size W w) : FoldTab w where
  up c h1 h2 := cell_below hb (h.up c h1 h2)
  lo c h1 h2 h3 h4 := cell_below hb (h.lo c h1 h2 h3 h4)
  k := cell_below hb h.k
  s := cell_below hb h.s
  orb := by
    obtain ⟨b, o, h0, c5, c8, c9, c10, c11, c23, c47, c71, c83, c86, c87, c88, c89, d10, d88⟩ := h.orb
    exact ⟨b, o, cell_below hb h0, cell_below hb c5, cell_below hb c8, cell_below hb c9, cell_below hb c10, cell_below hb c11, cell_below hb c23, cell_below hb c47, cell_below hb c71, cell_below hb c83, cell_below hb c86, cell_below hb c87, cell_below hb c88, cell_below hb c89, cell_below hb d10, cell_below hb d88⟩
end Go.Proofs.Qxb6603871aDoor
