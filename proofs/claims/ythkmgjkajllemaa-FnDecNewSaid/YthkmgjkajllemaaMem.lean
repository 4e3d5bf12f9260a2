/- Blocks of two or three cells that a call has made, behind other calls. -/
import Derived.Test.YthkmgjkajllemaaRows
import Derived.WalkKit
import Derived.Below
import Derived.Lib.Hide
namespace Go.Proofs.Ythkmgjkajllemaa.Mem
open Go.RowKit
set_option linter.unusedVariables false
set_option linter.unusedSimpArgs false

theorem below_one {w w1 : World} (o : Obj) (h : Below (w.alloc o).heap.size (w.alloc o) w1) : Below w.heap.size w w1 :=
  ((Below.refl _ _).alloc (Nat.le_refl _) o).trans (h.mono (by simp))
theorem below_at {w w1 : World} (h : Below w.heap.size w w1) (o : Obj) : Below w.heap.size w (w1.alloc o) := h.alloc h.size o
theorem below_by {w w1 w2 : World} (h : Below w.heap.size w w1) (k : Below w1.heap.size w1 w2) : Below w.heap.size w w2 := h.trans (k.mono h.size)

/-- A block of three cells that may be written. -/
structure C3 (w : World) (g : Nat) (a b c : Value) : Prop where
  c0 : w.cell? ⟨g, 0, none⟩ = some a
  c1 : w.cell? ⟨g, 1, none⟩ = some b
  c2 : w.cell? ⟨g, 2, none⟩ = some c
  f0 : w.frozen? ⟨g, 0, none⟩ = false
  f1 : w.frozen? ⟨g, 1, none⟩ = false
  f2 : w.frozen? ⟨g, 2, none⟩ = false
  lt : g < w.heap.size
theorem C3.below {w w1 : World} {g : Nat} {a b c : Value} (h : C3 w g a b c) (hb : Below w.heap.size w w1) : C3 w1 g a b c :=
  ⟨(hb.cell h.lt).trans h.c0, (hb.cell h.lt).trans h.c1, (hb.cell h.lt).trans h.c2, (hb.frozen h.lt).trans h.f0, (hb.frozen h.lt).trans h.f1, (hb.frozen h.lt).trans h.f2, Nat.lt_of_lt_of_le h.lt hb.size⟩
theorem C3.new (w : World) (a b c : Value) (T : TypeId) : C3 (w.alloc (.cells #[a, b, c] T)) w.heap.size a b c :=
  ⟨by simp, by simp, by simp, by simp, by simp, by simp, by simp⟩
/-- What a block of three cells that was just made tells behind a call. -/
theorem made3 {w w1 : World} {a b c : Value} {T : TypeId} (h : Below (w.alloc (.cells #[a, b, c] T)).heap.size (w.alloc (.cells #[a, b, c] T)) w1) :
    C3 w1 w.heap.size a b c ∧ Below w.heap.size w w1 := ⟨(C3.new w a b c T).below h, below_one _ h⟩

/-- A block of two cells that may be written. -/
structure C2 (w : World) (g : Nat) (a b : Value) : Prop where
  c0 : w.cell? ⟨g, 0, none⟩ = some a
  c1 : w.cell? ⟨g, 1, none⟩ = some b
  f0 : w.frozen? ⟨g, 0, none⟩ = false
  f1 : w.frozen? ⟨g, 1, none⟩ = false
  lt : g < w.heap.size
theorem C2.below {w w1 : World} {g : Nat} {a b : Value} (h : C2 w g a b) (hb : Below w.heap.size w w1) : C2 w1 g a b :=
  ⟨(hb.cell h.lt).trans h.c0, (hb.cell h.lt).trans h.c1, (hb.frozen h.lt).trans h.f0, (hb.frozen h.lt).trans h.f1, Nat.lt_of_lt_of_le h.lt hb.size⟩
theorem C2.new (w : World) (a b : Value) (T : TypeId) : C2 (w.alloc (.cells #[a, b] T)) w.heap.size a b :=
  ⟨by simp, by simp, by simp, by simp, by simp⟩
theorem made2 {w w1 : World} {a b : Value} {T : TypeId} (h : Below (w.alloc (.cells #[a, b] T)).heap.size (w.alloc (.cells #[a, b] T)) w1) :
    C2 w1 w.heap.size a b ∧ Below w.heap.size w w1 := ⟨(C2.new w a b T).below h, below_one _ h⟩

/-- Cells of elder blocks stand when one is made. -/
theorem old_cell {w : World} {b : Nat} {v : Value} (h : w.cell? ⟨b, 0, none⟩ = some v) (hl : b < w.heap.size) (o : Obj) : (w.alloc o).cell? ⟨b, 0, none⟩ = some v :=
  (((Below.refl w.heap.size w).alloc (Nat.le_refl _) o).cell (p := ⟨b, 0, none⟩) hl).trans h

end Go.Proofs.Ythkmgjkajllemaa.Mem
