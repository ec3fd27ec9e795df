import Derived.Test.Qxb6603871aDoorEq
set_option linter.unusedVariables false
set_option linter.unusedSimpArgs false
namespace Go.Proofs.Qxb6603871aDoor
open Go.RowKit Go.PlainAid

/-- A lexer's fields. -/
structure Lx where
  sql : ByteArray
  i : Int
  kind : Int
  n : Int
  prev : ByteArray
  cr : Bool
  be : Bool
  depth : Int
  body : Bool
  ended : Bool

/-- The lexer's fields lie in block b. -/
structure LexAt (w : World) (b : Nat) (L : Lx) : Prop where
  c0 : w.cell? ⟨b, 0, none⟩ = some (.string L.sql)
  c1 : w.cell? ⟨b, 1, none⟩ = some (.int .i64 L.i)
  c2 : w.cell? ⟨b, 2, none⟩ = some (.int .i32 L.kind)
  c3 : w.cell? ⟨b, 3, none⟩ = some (.int .i64 L.n)
  c4 : w.cell? ⟨b, 4, none⟩ = some (.string L.prev)
  c5 : w.cell? ⟨b, 5, none⟩ = some (.bool L.cr)
  c6 : w.cell? ⟨b, 6, none⟩ = some (.bool L.be)
  c7 : w.cell? ⟨b, 7, none⟩ = some (.int .i64 L.depth)
  c8 : w.cell? ⟨b, 8, none⟩ = some (.bool L.body)
  c9 : w.cell? ⟨b, 9, none⟩ = some (.bool L.ended)
  f : ∀ k, w.frozen? ⟨b, k, none⟩ = false

/-- Where a call stands that works on block b alone: W0: the row's first world (with the tables), W: the world as the call began, w: the world now. -/
structure Tk (W0 W : World) (b : Nat) (w : World) : Prop where
  bel : Below W0.heap.size W0 w
  gb : W.grownBy w (some b)
  hb : W0.heap.size ≤ b
  lt : b < w.heap.size
  ft : FoldTab W0
theorem Tk.tab {W0 W w : World} {b : Nat} (h : Tk W0 W b w) : FoldTab w := h.ft.below h.bel
theorem Tk.set {W0 W w : World} {b : Nat} (h : Tk W0 W b w) {k : Nat} {v : Value} : Tk W0 W b (w.setCell ⟨b, k, none⟩ v) where
  bel := h.bel.setCell h.hb _
  gb := ⟨h.gb.os, h.gb.tape, h.gb.output, by have := h.gb.size; simp [World.setCell]; exact this, fun j h1 h2 => by
    rw [Below.heap_setCell _ _ _ _ (by intro e; exact h2 (by rw [e]))]; exact h.gb.block j h1 h2⟩
  hb := h.hb
  lt := by have := h.lt; simp [World.setCell]; exact this
  ft := h.ft
theorem Tk.go {W0 W w w' : World} {b : Nat} (h : Tk W0 W b w) (hb : Below w.heap.size w w') : Tk W0 W b w' where
  bel := h.bel.trans (hb.mono h.bel.size)
  gb := ⟨hb.os.trans h.gb.os, hb.tape.trans h.gb.tape, hb.output.trans h.gb.output, Nat.le_trans h.gb.size hb.size, fun j h1 h2 => (hb.block j (Nat.lt_of_lt_of_le h1 h.gb.size)).trans (h.gb.block j h1 h2)⟩
  hb := h.hb
  lt := Nat.lt_of_lt_of_le h.lt hb.size
  ft := h.ft
theorem Tk.drew {W0 W w : World} {b : Nat} (h : Tk W0 W b w) (n : Nat) : Tk W0 W b (w.drewN n) := h.go (below_drewN (Below.refl _ _) n)

/-- An upper-case word of at most 16 letters. -/
def kwOk (t : ByteArray) : Prop := t.size ≤ 16 ∧ ∀ k, k < t.size → 65 ≤ bt t k ∧ bt t k ≤ 90
theorem kwOk_of (l : List UInt8) (h : l.length ≤ 16) (ha : ∀ c ∈ l, 65 ≤ c.toNat ∧ c.toNat ≤ 90) : kwOk ⟨l.toArray⟩ := by
  have hs : (⟨l.toArray⟩ : ByteArray).size = l.length := by simp [ByteArray.size]
  refine ⟨by omega, fun k hk => ?_⟩
  obtain ⟨b, b1, b2⟩ := list_bt ⟨l.toArray⟩ k hk
  have : b ∈ l := List.mem_of_getElem? (by simpa using b1)
  have := ha b this
  omega

theorem m_kw (x t : ByteArray) (W0 W w : World) (b : Nat) (hx : x.size ≤ 1048576) (ht : kwOk t) (h : Tk W0 W b w) :
    Calls Tryd.prog 33 #[.string x, .string t] w fun e w' => e = .returned (.bool (kw x t)) ∧ Tk W0 W b w' ∧ Below w.heap.size w w' := by
  have HC : Hid (∀ w, FoldTab w → Calls Tryd.prog 37 #[.string x, .string t] w fun e w' => e = .returned (.bool (kw x t)) ∧ Below w.heap.size w w') := fun w hw => eq_any x t w hx ht.1 ht.2 hw _ rfl
  go_enter Tryd.func33, Tryd.ntmps33
  go_wp2_with (go_at_call 37; refine (HC.out _ h.tab).mono ?_; rintro e w2 ⟨rfl, hb⟩)
  go_ret
  exact ⟨rfl, h.go hb, hb⟩

abbrev kCREATE : ByteArray := ⟨#[67, 82, 69, 65, 84, 69]⟩
abbrev kBEGIN : ByteArray := ⟨#[66, 69, 71, 73, 78]⟩
abbrev kATOMIC : ByteArray := ⟨#[65, 84, 79, 77, 73, 67]⟩
abbrev kCASE : ByteArray := ⟨#[67, 65, 83, 69]⟩
abbrev kEND : ByteArray := ⟨#[69, 78, 68]⟩
abbrev kPROCEDURE : ByteArray := ⟨#[80, 82, 79, 67, 69, 68, 85, 82, 69]⟩
abbrev kFUNCTION : ByteArray := ⟨#[70, 85, 78, 67, 84, 73, 79, 78]⟩
abbrev kTRIGGER : ByteArray := ⟨#[84, 82, 73, 71, 71, 69, 82]⟩
abbrev kEVENT : ByteArray := ⟨#[69, 86, 69, 78, 84]⟩
abbrev kPACKAGE : ByteArray := ⟨#[80, 65, 67, 75, 65, 71, 69]⟩
abbrev kNOT : ByteArray := ⟨#[78, 79, 84]⟩
theorem ok_CREATE : kwOk kCREATE := kwOk_of [67, 82, 69, 65, 84, 69] (by decide) (by decide)
theorem ok_BEGIN : kwOk kBEGIN := kwOk_of [66, 69, 71, 73, 78] (by decide) (by decide)
theorem ok_ATOMIC : kwOk kATOMIC := kwOk_of [65, 84, 79, 77, 73, 67] (by decide) (by decide)
theorem ok_CASE : kwOk kCASE := kwOk_of [67, 65, 83, 69] (by decide) (by decide)
theorem ok_END : kwOk kEND := kwOk_of [69, 78, 68] (by decide) (by decide)
theorem ok_PROCEDURE : kwOk kPROCEDURE := kwOk_of [80, 82, 79, 67, 69, 68, 85, 82, 69] (by decide) (by decide)
theorem ok_FUNCTION : kwOk kFUNCTION := kwOk_of [70, 85, 78, 67, 84, 73, 79, 78] (by decide) (by decide)
theorem ok_TRIGGER : kwOk kTRIGGER := kwOk_of [84, 82, 73, 71, 71, 69, 82] (by decide) (by decide)
theorem ok_EVENT : kwOk kEVENT := kwOk_of [69, 86, 69, 78, 84] (by decide) (by decide)
theorem ok_PACKAGE : kwOk kPACKAGE := kwOk_of [80, 65, 67, 75, 65, 71, 69] (by decide) (by decide)
theorem ok_NOT : kwOk kNOT := kwOk_of [78, 79, 84] (by decide) (by decide)

/-- Is the word one that makes a MariaDB statement a body? -/
def bodyW (x : ByteArray) : Bool := kw x kPROCEDURE || kw x kFUNCTION || kw x kTRIGGER || kw x kEVENT || kw x kPACKAGE
/-- What track does. -/
def trackF (L : Lx) (x : ByteArray) : Lx :=
  let n1 := wrap64 (L.n + 1)
  if n1 = 1 then { L with n := n1, prev := x, cr := kw x kCREATE, be := kw x kBEGIN }
  else if L.kind = 2 ∧ L.cr = true then
    if (kw x kATOMIC && kw L.prev kBEGIN) || (decide (0 < L.depth) && kw x kCASE) then { L with n := n1, prev := x, depth := wrap64 (L.depth + 1) }
    else if (decide (0 < L.depth) && kw x kEND) = true then { L with n := n1, prev := x, depth := wrap64 (L.depth - 1) }
    else { L with n := n1, prev := x }
  else if L.kind = 3 ∧ L.cr = true ∧ n1 ≤ 8 then { L with n := n1, prev := x, body := L.body || bodyW x }
  else if L.kind = 3 ∧ L.be = true ∧ n1 = 2 then { L with n := n1, prev := x, body := kw x kNOT }
  else { L with n := n1, prev := x }
end Go.Proofs.Qxb6603871aDoor
