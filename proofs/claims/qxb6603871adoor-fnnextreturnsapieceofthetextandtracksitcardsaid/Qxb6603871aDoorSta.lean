import Derived.Test.Qxb6603871aDoorTrw
import Derived.Handy
import Derived.BigRegion
import Derived.Deep.RegionHeld
set_option linter.unusedVariables false
set_option linter.unusedSimpArgs false
namespace Go.Proofs.Qxb6603871aDoor
open Go.RowKit Go.PlainAid
/-- A lexer's state as a value. -/
def Lx.agg (L : Lx) : Value := .agg #[.string L.sql, .int .i64 L.i, .int .i32 L.kind, .int .i64 L.n, .string L.prev, .bool L.cr, .bool L.be, .int .i64 L.depth, .bool L.body, .bool L.ended]

set_option maxRecDepth 100000 in
set_option maxHeartbeats 4000000 in
theorem state_any (L : Lx) (b : Nat) (w : World) (hL : LexAt w b L) (hlt : b < w.heap.size) :
    Calls Tryd.prog 22 #[.pointer (some ⟨b, 0, none⟩)] w fun e w' => e = .returned (.agg #[.string L.sql, .int .i64 L.i, .int .i32 L.kind, .int .i64 L.n, .string L.prev, .bool L.cr, .bool L.be, .int .i64 L.depth, .bool L.body, .bool L.ended]) ∧ Below w.heap.size w w' := by
  obtain ⟨c0, c1, c2, c3, c4, c5, c6, c7, c8, c9, f⟩ := hL
  go_enter Tryd.func22, Tryd.ntmps22
  go_wp2
  go_region_held (fun w' => w'.cell? ⟨b, 0, none⟩ = some (.string L.sql) ∧ w'.cell? ⟨b, 1, none⟩ = some (.int .i64 L.i) ∧ w'.cell? ⟨b, 2, none⟩ = some (.int .i32 L.kind) ∧ w'.cell? ⟨b, 3, none⟩ = some (.int .i64 L.n) ∧ w'.cell? ⟨b, 4, none⟩ = some (.string L.prev) ∧ w'.cell? ⟨b, 5, none⟩ = some (.bool L.cr) ∧ w'.cell? ⟨b, 6, none⟩ = some (.bool L.be) ∧ w'.cell? ⟨b, 7, none⟩ = some (.int .i64 L.depth) ∧ w'.cell? ⟨b, 8, none⟩ = some (.bool L.body) ∧ w'.cell? ⟨b, 9, none⟩ = some (.bool L.ended)) (go_keep) (fail)
  go_wp2
  go_returns
  exact ⟨rfl, ((Below.refl _ _).alloc (Nat.le_refl _) _).drew⟩
end Go.Proofs.Qxb6603871aDoor
