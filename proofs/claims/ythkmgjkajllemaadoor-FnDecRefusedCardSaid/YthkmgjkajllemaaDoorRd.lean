/- A strings.Reader over a text: ReadByte, UnreadByte, NewReader. -/
import Derived.Test.YthkmgjkajllemaaDoorTx
import Derived.WalkSpells
namespace Go.Proofs.YthkmgjkajllemaaDoor.Rd
open Go.RowKit Go.Proofs.YthkmgjkajllemaaDoorW.PrintWords Go.Proofs.YthkmgjkajllemaaDoorW.PrintLast Go.Proofs.YthkmgjkajllemaaDoorW.PrintMore Go.Proofs.YthkmgjkajllemaaDoor.Tx
set_option linter.unusedVariables false
set_option linter.unusedSimpArgs false

/-- A reader at a place of its text. -/
structure At (w : World) (g : Nat) (s : ByteArray) (p : Nat) : Prop where
  c0 : w.cell? ⟨g, 0, none⟩ = some (.string s)
  c1 : w.cell? ⟨g, 1, none⟩ = some (.int .i64 p)
  c2 : ∃ x : Int, w.cell? ⟨g, 2, none⟩ = some (.int .i64 x)
  f1 : w.frozen? ⟨g, 1, none⟩ = false
  f2 : w.frozen? ⟨g, 2, none⟩ = false
  lt : g < w.heap.size
theorem At.below {w w1 : World} {g : Nat} {s : ByteArray} {p : Nat} (h : At w g s p) (hb : Below w.heap.size w w1) : At w1 g s p := by
  obtain ⟨c0, c1, ⟨x, c2⟩, f1, f2, lt⟩ := h
  exact ⟨pw_cell_below hb c0, pw_cell_below hb c1, ⟨x, pw_cell_below hb c2⟩, (hb.frozen (p := ⟨g, 1, none⟩) lt).trans f1, (hb.frozen (p := ⟨g, 2, none⟩) lt).trans f2, Nat.lt_of_lt_of_le lt hb.size⟩

theorem cell_set_other {w : World} {p q : Addr} {u v : Value} (h : w.cell? q = some v) (hn : q ≠ p) : (w.setCell p u).cell? q = some v :=
  (World.cell?_setCell_other _ _ _ _ (fun e => hn e.symm)).trans h
/-- No block but g turns. -/
def Only (g : Nat) (w w' : World) : Prop := ∀ k, k ≠ g → w'.heap[k]? = w.heap[k]?
theorem Only.two (g i j : Nat) (u v : Value) (w w1 : World) (h : w1.heap = (w.setCell ⟨g, i, none⟩ u).heap) : Only g w (w1.setCell ⟨g, j, none⟩ v) := by
  intro k hk
  rw [Below.heap_setCell _ _ _ _ (by exact hk), h, Below.heap_setCell _ _ _ _ (by exact hk)]
theorem At.keep {w w1 : World} {g B : Nat} {s : ByteArray} {p : Nat} (h : At w g s p) (hb : Below B w w1) (hg : g < B) : At w1 g s p := by
  obtain ⟨c0, c1, ⟨x, c2⟩, f1, f2, lt⟩ := h
  exact ⟨(hb.cell (p := ⟨g, 0, none⟩) hg).trans c0, (hb.cell (p := ⟨g, 1, none⟩) hg).trans c1, ⟨x, (hb.cell (p := ⟨g, 2, none⟩) hg).trans c2⟩, (hb.frozen (p := ⟨g, 1, none⟩) hg).trans f1, (hb.frozen (p := ⟨g, 2, none⟩) hg).trans f2, Nat.lt_of_lt_of_le lt hb.size⟩
theorem At.drew {w : World} {g : Nat} {s : ByteArray} {p : Nat} (h : At w g s p) : At w.drew g s p := h.below (below_drew (Below.refl _ _))
theorem At.set2 {w : World} {g : Nat} {s : ByteArray} {p : Nat} (h : At w g s p) (x : Int) : At (w.setCell ⟨g, 2, none⟩ (.int .i64 x)) g s p := by
  obtain ⟨c0, c1, ⟨y, c2⟩, f1, f2, lt⟩ := h
  exact ⟨cell_set_other c0 (by simp), cell_set_other c1 (by simp), ⟨x, World.cell?_setCell_same _ _ _ c2⟩, by simpa using f1, by simpa using f2, by simpa using lt⟩
theorem At.set1 {w : World} {g : Nat} {s : ByteArray} {p : Nat} (h : At w g s p) (x : Int) (q : Nat) (e : x = (q : Int)) : At (w.setCell ⟨g, 1, none⟩ (.int .i64 x)) g s q := by
  subst e
  obtain ⟨c0, c1, ⟨y, c2⟩, f1, f2, lt⟩ := h
  exact ⟨cell_set_other c0 (by simp), World.cell?_setCell_same _ _ _ c1, ⟨y, cell_set_other c2 (by simp)⟩, by simpa using f1, by simpa using f2, by simpa using lt⟩

set_option maxHeartbeats 1000000 in
set_option maxRecDepth 100000 in
theorem readByte_in (g : Nat) (s : ByteArray) (p b : Nat) (w : World) (h : At w g s p) (hp : p < s.size) (hs : s.size < 1000000) (hb : b ≤ g) :
    Calls Tryd.prog 190 #[.pointer (some ⟨g, 0, none⟩)] w fun e w' => e = .returned (.tuple #[.int .u8 (bt s (p : Int)), .nilIface]) ∧ At w' g s (p + 1) ∧ Below b w w' ∧ Only g w w' := by
  have HAT := Aside0.mk h
  obtain ⟨c0, c1, ⟨x, c2⟩, f1, f2, lt⟩ := h
  obtain ⟨y, hy, hy2, hy3⟩ := bt_nat s p hp
  have HB3 := Aside0.mk hy3
  have g1 : decide ((s.size : Int) ≤ (p : Int)) = false := decide_eq_false (by omega)
  have g2 : ¬ (s.size : Int) ≤ (p : Int) := by omega
  rw [hy2]
  clear hy3 hy2
  go_enter Tryd.func190, Tryd.ntmps190
  go_wp2_with (simp only [HB3.out])
  go_region
  go_wp2_with (simp only [HB3.out])
  go_region
  go_wp2_with (simp only [HB3.out])
  go_ret2
  exact ⟨rfl, ((HAT.out.set2 _).drew.drew).set1 _ _ (by omega), (below_drew (below_drew ((Below.refl _ _).setCell hb _))).setCell hb _, Only.two _ _ _ _ _ _ _ rfl⟩

set_option maxHeartbeats 1000000 in
set_option maxRecDepth 100000 in
theorem readByte_end (g : Nat) (s : ByteArray) (b : Nat) (v : Value) (w : World) (h : At w g s s.size) (hs : s.size < 1000000) (hb : b ≤ g) (hg4 : 4 ≠ g) (hv : w.cell? ⟨4, 0, none⟩ = some v) :
    Calls Tryd.prog 190 #[.pointer (some ⟨g, 0, none⟩)] w fun e w' => e = .returned (.tuple #[.int .u8 0, v]) ∧ At w' g s s.size ∧ Below b w w' := by
  have HAT := Aside0.mk h
  obtain ⟨c0, c1, ⟨x, c2⟩, f1, f2, lt⟩ := h
  have hne : (4 : Nat) ≠ g := hg4
  have hv2 : (w.setCell ⟨g, 2, none⟩ (.int .i64 (-1))).drew.drew.cell? ⟨4, 0, none⟩ = some v := by
    have h1 := cell_set_other (p := ⟨g, 2, none⟩) (u := .int .i64 (-1)) hv (fun e => hg4 (congrArg Addr.block e))
    simpa using h1
  go_enter Tryd.func190, Tryd.ntmps190
  go_wp2
  go_region
  go_wp2
  go_region
  go_wp2
  go_ret2
  exact ⟨rfl, (HAT.out.set2 _).drew.drew, below_drew (below_drew ((Below.refl _ _).setCell hb _))⟩

set_option maxHeartbeats 1000000 in
set_option maxRecDepth 100000 in
theorem unread_any (g : Nat) (s : ByteArray) (p b : Nat) (w : World) (h : At w g s (p + 1)) (hp : p < s.size) (hs : s.size < 1000000) (hb : b ≤ g) :
    Calls Tryd.prog 191 #[.pointer (some ⟨g, 0, none⟩)] w fun e w' => e = .returned .nilIface ∧ At w' g s p ∧ Below b w w' ∧ Only g w w' := by
  have HAT := Aside0.mk h
  obtain ⟨c0, c1, ⟨x, c2⟩, f1, f2, lt⟩ := h
  have g1 : decide (((p + 1 : Nat) : Int) ≤ 0) = false := decide_eq_false (by omega)
  go_enter Tryd.func191, Tryd.ntmps191
  go_wp2
  go_ret
  exact ⟨rfl, (HAT.out.set2 _).set1 _ _ (by omega), ((Below.refl _ _).setCell hb _).setCell hb _, Only.two _ _ _ _ _ _ _ rfl⟩

set_option maxHeartbeats 1000000 in
set_option maxRecDepth 100000 in
theorem newReader_any (s : ByteArray) (w : World) :
    Calls Tryd.prog 111 #[.string s] w fun e w' => ∃ g, e = .returned (.pointer (some ⟨g, 0, none⟩)) ∧ w.heap.size ≤ g ∧ At w' g s 0 ∧ Below w.heap.size w w' := by
  go_enter Tryd.func111, Tryd.ntmps111
  go_wp2
  go_ret
  exact ⟨w.heap.size, rfl, Nat.le_refl _, ⟨by simp, by simp, ⟨-1, by simp⟩, by simp, by simp, by simp⟩, (Below.refl _ _).alloc (Nat.le_refl _) _⟩
end Go.Proofs.YthkmgjkajllemaaDoor.Rd
