/- Lemmas and contracts of functions for the theorem of YthkmgjkajllemaaDoorCiF. -/
import Derived.Test.YthkmgjkajllemaaDoorCiA
import Derived.Test.YthkmgjkajllemaaDoorRows
import Derived.WalkKit
import Derived.Below
import Derived.RegionTactic
import Derived.WideLaws
import Derived.WalkSpells
import Derived.Outline
import Derived.Test.YthkmgjkajllemaaDoorPfixx
import Derived.Lib.Hide
import Derived.Deep.RegionWith
import Derived.Deep.RegionHeld3
import Derived.Test.YthkmgjkajllemaaDoorWRepsOne

/- Decimals of govalues are made of parts as they should be, and told back as parts. -/
namespace Go.Proofs.YthkmgjkajllemaaDoor.Make
open Go.RowKit
set_option linter.unusedVariables false
set_option linter.unusedSimpArgs false

/-- The two package-level errors that are handed back are none that is nil. -/
structure ErrAt (w : World) : Prop where
  range : ∃ t v, w.cell? ⟨2, 0, none⟩ = some (.iface t v)
  over : ∃ t v, w.cell? ⟨3, 0, none⟩ = some (.iface t v)
  low : 3 < w.heap.size
theorem ErrAt.below {w w' : World} (h : ErrAt w) (hb : Below w.heap.size w w') : ErrAt w' := by
  obtain ⟨⟨t, v, h1⟩, ⟨t2, v2, h2⟩, h3⟩ := h
  exact ⟨⟨t, v, (hb.cell (p := ⟨2, 0, none⟩) (by show 2 < _; omega)).trans h1⟩, ⟨t2, v2, (hb.cell (p := ⟨3, 0, none⟩) h3).trans h2⟩, Nat.lt_of_lt_of_le h3 hb.size⟩

theorem below_one {w w1 : World} (o : Obj) (h : Below (w.alloc o).heap.size (w.alloc o) w1) : Below w.heap.size w w1 :=
  ((Below.refl _ _).alloc (Nat.le_refl _) o).trans (h.mono (by simp))
theorem below_at {w w1 : World} (h : Below w.heap.size w w1) (o : Obj) : Below w.heap.size w (w1.alloc o) := h.alloc h.size o
theorem below_by {w w1 w2 : World} (h : Below w.heap.size w w1) (k : Below w1.heap.size w1 w2) : Below w.heap.size w w2 := h.trans (k.mono h.size)

theorem newUnsafe_any (neg : Bool) (c s : Nat) (w : World) (hs : s ≤ 19) :
    Calls Tryd.prog 85 #[.bool neg, .int .u64 c, .int .i64 s] w fun e w' => e = .returned (.agg #[.bool (neg && decide (0 < c)), .int .i8 s, .int .u64 c]) ∧ Below w.heap.size w w' := by
  by_cases hc : c = 0
  · subst hc
    have hv : (.int .u64 ((0 : Nat) : Int) : Value) = .int .u64 0 := rfl
    rw [hv]
    have e0 : (neg && decide (0 < 0)) = false := by simp
    rw [e0]
    clear hv e0
    go_enter Tryd.func85, Tryd.ntmps85
    go_wp2
    exact bodyPost_ret (v := .agg #[.bool false, .int .i8 s, .int .u64 0]) (by simp [results, Tryd.results85, go_sem]) rfl ⟨rfl, (Below.refl _ _).alloc (Nat.le_refl _) _⟩
  · have h0 : ((c : Int) == 0) = false := beq_eq_false_iff_ne.2 (by omega)
    have e0 : (neg && decide (0 < c)) = neg := by simp [show 0 < c by omega]
    rw [e0]
    clear e0 hc
    go_enter Tryd.func85, Tryd.ntmps85
    go_wp2
    exact bodyPost_ret (v := .agg #[.bool neg, .int .i8 s, .int .u64 c]) (by simp [results, Tryd.results85, go_sem]) rfl ⟨rfl, (Below.refl _ _).alloc (Nat.le_refl _) _⟩

/-- A block of three cells that may be written. -/
structure C3 (w : World) (g : Nat) (a b c : Value) : Prop where
  c0 : w.cell? ⟨g, 0, none⟩ = some a
  c1 : w.cell? ⟨g, 1, none⟩ = some b
  c2 : w.cell? ⟨g, 2, none⟩ = some c
  f0 : w.frozen? ⟨g, 0, none⟩ = false
  f1 : w.frozen? ⟨g, 1, none⟩ = false
  f2 : w.frozen? ⟨g, 2, none⟩ = false
  lt : g < w.heap.size
theorem C3.below {w w1 : World} {g : Nat} {a b c : Value} (h : C3 w g a b c) (hb : Below w.heap.size w w1) : C3 w1 g a b c :=
  ⟨(hb.cell h.lt).trans h.c0, (hb.cell h.lt).trans h.c1, (hb.cell h.lt).trans h.c2, (hb.frozen h.lt).trans h.f0, (hb.frozen h.lt).trans h.f1, (hb.frozen h.lt).trans h.f2, Nat.lt_of_lt_of_le h.lt hb.size⟩
theorem C3.new (w : World) (a b c : Value) (T : TypeId) : C3 (w.alloc (.cells #[a, b, c] T)) w.heap.size a b c :=
  ⟨by simp, by simp, by simp, by simp, by simp, by simp, by simp⟩
/-- What a block of three cells that was just made tells behind a call. -/
theorem made3 {w w1 : World} {a b c : Value} {T : TypeId} (h : Below (w.alloc (.cells #[a, b, c] T)).heap.size (w.alloc (.cells #[a, b, c] T)) w1) :
    C3 w1 w.heap.size a b c ∧ Below w.heap.size w w1 := ⟨(C3.new w a b c T).below h, below_one _ h⟩

/-- A block of two cells that may be written. -/
structure C2 (w : World) (g : Nat) (a b : Value) : Prop where
  c0 : w.cell? ⟨g, 0, none⟩ = some a
  c1 : w.cell? ⟨g, 1, none⟩ = some b
  f0 : w.frozen? ⟨g, 0, none⟩ = false
  f1 : w.frozen? ⟨g, 1, none⟩ = false
  lt : g < w.heap.size
theorem C2.below {w w1 : World} {g : Nat} {a b : Value} (h : C2 w g a b) (hb : Below w.heap.size w w1) : C2 w1 g a b :=
  ⟨(hb.cell h.lt).trans h.c0, (hb.cell h.lt).trans h.c1, (hb.frozen h.lt).trans h.f0, (hb.frozen h.lt).trans h.f1, Nat.lt_of_lt_of_le h.lt hb.size⟩
theorem C2.new (w : World) (a b : Value) (T : TypeId) : C2 (w.alloc (.cells #[a, b] T)) w.heap.size a b :=
  ⟨by simp, by simp, by simp, by simp, by simp⟩
theorem made2 {w w1 : World} {a b : Value} {T : TypeId} (h : Below (w.alloc (.cells #[a, b] T)).heap.size (w.alloc (.cells #[a, b] T)) w1) :
    C2 w1 w.heap.size a b ∧ Below w.heap.size w w1 := ⟨(C2.new w a b T).below h, below_one _ h⟩

theorem newSafe_ok (neg : Bool) (c s : Nat) (w : World) (hs : s ≤ 19) (hc : c ≤ 9999999999999999999) :
    Calls Tryd.prog 80 #[.bool neg, .int .u64 c, .int .i64 s] w fun e w' => e = .returned (.tuple #[.agg #[.bool (neg && decide (0 < c)), .int .i8 s, .int .u64 c], .nilIface]) ∧ Below w.heap.size w w' := by
  have HU := Lib.hid (newUnsafe_any neg c s)
  generalize (neg && decide (0 < c)) = b at HU
  go_enter Tryd.func80, Tryd.ntmps80
  go_wp2_with (first | (go_at_call 85; refine (HU.out _ hs).mono ?_; rintro e w1 ⟨rfl, hb⟩; obtain ⟨H3, hb1⟩ := made3 hb; obtain ⟨c0, c1, c2, f0, f1, f2, hz⟩ := H3; have HB := Lib.hid hb1; clear hb hb1))
  exact bodyPost_ret (v := .tuple #[.agg #[.bool b, .int .i8 s, .int .u64 c], .nilIface]) (by simp [results, Tryd.results80, go_sem, c0, c1, c2, f0, f1, f2, hz]) rfl ⟨rfl, ((HB.out.setCell (Nat.le_refl _) _).setCell (Nat.le_refl _) _).setCell (Nat.le_refl _) _⟩

/-- Cells of elder blocks stand when one is made. -/
theorem old_cell {w : World} {b : Nat} {v : Value} (h : w.cell? ⟨b, 0, none⟩ = some v) (hl : b < w.heap.size) (o : Obj) : (w.alloc o).cell? ⟨b, 0, none⟩ = some v :=
  (((Below.refl w.heap.size w).alloc (Nat.le_refl _) o).cell (p := ⟨b, 0, none⟩) hl).trans h

theorem newSafe_range (neg : Bool) (c : Nat) (s : Int) (w : World) (hs : s < 0 ∨ 19 < s) (he : ErrAt w) :
    Calls Tryd.prog 80 #[.bool neg, .int .u64 c, .int .i64 s] w fun e w' => (∃ t v, e = .returned (.tuple #[.agg #[.bool false, .int .i8 0, .int .u64 0], .iface t v])) ∧ Below w.heap.size w w' := by
  obtain ⟨⟨t, v, h1⟩, _, hl⟩ := he
  have hl2 : 2 < w.heap.size := by omega
  have hA := old_cell h1 hl2
  by_cases h0 : s < 0
  · have g0 : decide (s < 0) = true := decide_eq_true h0
    clear hs h1 h0
    go_enter Tryd.func80, Tryd.ntmps80
    go_wp2
    go_region
    go_wp2
    exact bodyPost_ret (v := .tuple #[.agg #[.bool false, .int .i8 0, .int .u64 0], .iface t v]) (by simp [results, Tryd.results80, go_sem]) rfl ⟨⟨t, v, rfl⟩, by repeat (first | exact Below.refl _ _ | apply Below.drew | refine Below.setCell ?_ (Nat.le_refl _) _ | refine Below.alloc ?_ (Nat.le_refl _) _)⟩
  · have g0 : decide (s < 0) = false := decide_eq_false h0
    have g1 : decide (19 < s) = true := decide_eq_true (by omega)
    clear hs h1 h0
    go_enter Tryd.func80, Tryd.ntmps80
    go_wp2
    go_region
    go_wp2
    exact bodyPost_ret (v := .tuple #[.agg #[.bool false, .int .i8 0, .int .u64 0], .iface t v]) (by simp [results, Tryd.results80, go_sem]) rfl ⟨⟨t, v, rfl⟩, by repeat (first | exact Below.refl _ _ | apply Below.drew | refine Below.setCell ?_ (Nat.le_refl _) _ | refine Below.alloc ?_ (Nat.le_refl _) _)⟩

theorem newSafe_over (neg : Bool) (c s : Nat) (w : World) (hs : s ≤ 19) (hc : 9999999999999999999 < c) (he : ErrAt w) :
    Calls Tryd.prog 80 #[.bool neg, .int .u64 c, .int .i64 s] w fun e w' => (∃ t v, e = .returned (.tuple #[.agg #[.bool false, .int .i8 0, .int .u64 0], .iface t v])) ∧ Below w.heap.size w w' := by
  obtain ⟨_, ⟨t, v, h1⟩, hl⟩ := he
  have hA := old_cell h1 hl
  have g0 : decide ((s : Int) < 0) = false := decide_eq_false (by omega)
  have g1 : decide ((19 : Int) < s) = false := decide_eq_false (by omega)
  have g2 : decide ((9999999999999999999 : Int) < c) = true := decide_eq_true (by omega)
  clear hs h1 hc
  go_enter Tryd.func80, Tryd.ntmps80
  go_wp2
  go_region
  go_wp2
  exact bodyPost_ret (v := .tuple #[.agg #[.bool false, .int .i8 0, .int .u64 0], .iface t v]) (by simp [results, Tryd.results80, go_sem]) rfl ⟨⟨t, v, rfl⟩, by repeat (first | exact Below.refl _ _ | apply Below.drew | refine Below.setCell ?_ (Nat.le_refl _) _ | refine Below.alloc ?_ (Nat.le_refl _) _)⟩

/-- The parts of a decimal are told back. -/
theorem fix_any (b : Bool) (s c : Nat) (w : World) (hs : s ≤ 19) :
    Calls Tryd.prog 45 #[.agg #[.bool b, .int .i8 s, .int .u64 c]] w fun e w' => e = .returned (.agg #[.bool b, .int .u64 c, .int .i64 s]) ∧ Below w.heap.size w w' := by
  refine Pfix.impl_fix.calls b s c b c s w ?_
  simp only [Pfix.impl_fix.f, Pfix.govalues_Decimal_IsNeg.f, Pfix.govalues_Decimal_Coef.f, Pfix.govalues_Decimal_Scale.f, Option.bind_some]
  rw [show wrap64 (s : Int) = s by unfold wrap64; omega]

theorem New_ok (v : Int) (s : Nat) (w : World) (hs : s ≤ 19) (h1 : -9223372036854775808 ≤ v) (h2 : v ≤ 9223372036854775807) :
    Calls Tryd.prog 44 #[.int .i64 v, .int .i64 s] w fun e w' => e = .returned (.tuple #[.agg #[.bool (decide (v < 0)), .int .i8 s, .int .u64 v.natAbs], .nilIface]) ∧ Below w.heap.size w w' := by
  by_cases h0 : 0 ≤ v
  · have HS := Lib.hid (newSafe_ok false v.natAbs s)
    rw [show (false && decide (0 < v.natAbs)) = decide (v < 0) by simp; omega] at HS
    obtain ⟨n, rfl⟩ := Int.eq_ofNat_of_zero_le h0
    rw [show ((n : Int).natAbs) = n by omega] at HS ⊢
    have hd : decide ((n : Int) < 0) = false := decide_eq_false (by omega)
    rw [hd] at HS ⊢
    clear h0 hd
    go_enter Tryd.func44, Tryd.ntmps44
    go_wp2_with (first | (go_at_call 80; refine (HS.out _ hs (by omega)).mono ?_; rintro e w1 ⟨rfl, hb⟩; obtain ⟨H3, hb1⟩ := made3 hb; obtain ⟨c0, c1, c2, f0, f1, f2, hz⟩ := H3; have HB := Lib.hid hb1; clear hb hb1))
    exact bodyPost_ret (v := .tuple #[.agg #[.bool false, .int .i8 s, .int .u64 n], .nilIface]) (by simp [results, Tryd.results44, go_sem, c0, c1, c2, f0, f1, f2, hz]) rfl ⟨rfl, ((HB.out.setCell (Nat.le_refl _) _).setCell (Nat.le_refl _) _).setCell (Nat.le_refl _) _⟩
  · have HS := Lib.hid (newSafe_ok true v.natAbs s)
    have hd : decide (v < 0) = true := decide_eq_true (by omega)
    rw [show (true && decide (0 < v.natAbs)) = true by simp; omega] at HS
    rw [hd]
    by_cases hm : v = -9223372036854775808
    · subst hm
      rw [show ((-9223372036854775808 : Int).natAbs) = 9223372036854775808 from rfl] at HS ⊢
      rw [show (((9223372036854775808 : Nat)) : Int) = (9223372036854775808 : Int) from rfl] at HS ⊢
      clear h0 hd
      go_enter Tryd.func44, Tryd.ntmps44
      go_wp2_with (first | (go_at_call 80; refine (HS.out _ hs (by omega)).mono ?_; rintro e w1 ⟨rfl, hb⟩; obtain ⟨H3, hb1⟩ := made3 hb; obtain ⟨c0, c1, c2, f0, f1, f2, hz⟩ := H3; have HB := Lib.hid hb1; clear hb hb1))
      exact bodyPost_ret (v := .tuple #[.agg #[.bool true, .int .i8 s, .int .u64 9223372036854775808], .nilIface]) (by simp [results, Tryd.results44, go_sem, c0, c1, c2, f0, f1, f2, hz]) rfl ⟨rfl, ((HB.out.setCell (Nat.le_refl _) _).setCell (Nat.le_refl _) _).setCell (Nat.le_refl _) _⟩
    · have hmb : (v == -9223372036854775808) = false := beq_eq_false_iff_ne.2 hm
      have hvb : IntKind.u64.wrap (-v) = (v.natAbs : Nat) := by rw [IntWalk.u64_in _ (by omega)]; omega
      have hg : decide (0 ≤ v) = false := decide_eq_false h0
      have hv1 : v ≤ -1 := by omega
      have hv2 : -9223372036854775807 ≤ v := by omega
      have HV := Lib.hid (show -v = ((v.natAbs : Nat) : Int) by omega)
      have hn : v.natAbs ≤ 9999999999999999999 := by omega
      generalize v.natAbs = n at HS hvb HV hn ⊢
      clear h0 hd hm h1 hvb
      go_enter Tryd.func44, Tryd.ntmps44
      go_wp2_with fail
      rw [HV.out]
      refine (HS.out _ hs hn).mono ?_
      rintro e w1 ⟨rfl, hb⟩
      obtain ⟨⟨c0, c1, c2, f0, f1, f2, hz⟩, hb1⟩ := made3 hb
      have HB := Lib.hid hb1
      clear hb hb1
      go_wp2
      exact bodyPost_ret (v := .tuple #[.agg #[.bool true, .int .i8 s, .int .u64 n], .nilIface]) (by simp [results, Tryd.results44, go_sem, c0, c1, c2, f0, f1, f2, hz]) rfl ⟨rfl, ((HB.out.setCell (Nat.le_refl _) _).setCell (Nat.le_refl _) _).setCell (Nat.le_refl _) _⟩

theorem New_bad (v s : Int) (w : World) (hs : s < 0 ∨ 19 < s) (h1 : -9223372036854775808 ≤ v) (h2 : v ≤ 9223372036854775807) (he : ErrAt w) :
    Calls Tryd.prog 44 #[.int .i64 v, .int .i64 s] w fun e w' => (∃ t u, e = .returned (.tuple #[.agg #[.bool false, .int .i8 0, .int .u64 0], .iface t u])) ∧ Below w.heap.size w w' := by
  have HE : Hid (∀ o, ErrAt (w.alloc o)) := fun o => he.below ((Below.refl w.heap.size w).alloc (Nat.le_refl _) o)
  have HS := Lib.hid (fun (neg : Bool) (c : Nat) (W : World) (hW : ErrAt W) => newSafe_range neg c s W hs hW)
  clear he hs
  by_cases h0 : 0 ≤ v
  · obtain ⟨n, rfl⟩ := Int.eq_ofNat_of_zero_le h0
    have hg : decide ((0 : Int) ≤ n) = true := decide_eq_true h0
    clear h0
    go_enter Tryd.func44, Tryd.ntmps44
    go_wp2_with (first | (go_at_call 80; refine (HS.out _ n _ (HE.out _)).mono ?_; rintro e w1 ⟨⟨t, u, rfl⟩, hb⟩; obtain ⟨H3, hb1⟩ := made3 hb; obtain ⟨c0, c1, c2, f0, f1, f2, hz⟩ := H3; have HB := Lib.hid hb1; clear hb hb1))
    exact bodyPost_ret (v := .tuple #[.agg #[.bool false, .int .i8 0, .int .u64 0], .iface t u]) (by simp [results, Tryd.results44, go_sem, c0, c1, c2, f0, f1, f2, hz]) rfl ⟨⟨t, u, rfl⟩, ((HB.out.setCell (Nat.le_refl _) _).setCell (Nat.le_refl _) _).setCell (Nat.le_refl _) _⟩
  · by_cases hm : v = -9223372036854775808
    · subst hm
      have HS2 : Hid (∀ (W : World) (hW : ErrAt W), Calls Tryd.prog 80 #[.bool true, .int .u64 9223372036854775808, .int .i64 s] W fun e w' => (∃ t v, e = .returned (.tuple #[.agg #[.bool false, .int .i8 0, .int .u64 0], .iface t v])) ∧ Below W.heap.size W w') := fun W hW => HS.out true 9223372036854775808 W hW
      clear h0 HS
      go_enter Tryd.func44, Tryd.ntmps44
      go_wp2_with (first | (go_at_call 80; refine (HS2.out _ (HE.out _)).mono ?_; rintro e w1 ⟨⟨t, u, rfl⟩, hb⟩; obtain ⟨H3, hb1⟩ := made3 hb; obtain ⟨c0, c1, c2, f0, f1, f2, hz⟩ := H3; have HB := Lib.hid hb1; clear hb hb1))
      exact bodyPost_ret (v := .tuple #[.agg #[.bool false, .int .i8 0, .int .u64 0], .iface t u]) (by simp [results, Tryd.results44, go_sem, c0, c1, c2, f0, f1, f2, hz]) rfl ⟨⟨t, u, rfl⟩, ((HB.out.setCell (Nat.le_refl _) _).setCell (Nat.le_refl _) _).setCell (Nat.le_refl _) _⟩
    · have hmb : (v == -9223372036854775808) = false := beq_eq_false_iff_ne.2 hm
      have hg : decide (0 ≤ v) = false := decide_eq_false h0
      have hv1 : v ≤ -1 := by omega
      have hv2 : -9223372036854775807 ≤ v := by omega
      have HV := Lib.hid (show -v = ((v.natAbs : Nat) : Int) by omega)
      generalize v.natAbs = n at HV
      clear h0 hm h1
      go_enter Tryd.func44, Tryd.ntmps44
      go_wp2_with fail
      rw [HV.out]
      refine (HS.out _ n _ (HE.out _)).mono ?_
      rintro e w1 ⟨⟨t, u, rfl⟩, hb⟩
      obtain ⟨⟨c0, c1, c2, f0, f1, f2, hz⟩, hb1⟩ := made3 hb
      have HB := Lib.hid hb1
      clear hb hb1
      go_wp2
      exact bodyPost_ret (v := .tuple #[.agg #[.bool false, .int .i8 0, .int .u64 0], .iface t u]) (by simp [results, Tryd.results44, go_sem, c0, c1, c2, f0, f1, f2, hz]) rfl ⟨⟨t, u, rfl⟩, ((HB.out.setCell (Nat.le_refl _) _).setCell (Nat.le_refl _) _).setCell (Nat.le_refl _) _⟩

theorem fixNew_ok (v : Int) (s : Nat) (w : World) (hs : s ≤ 19) (h1 : -9223372036854775808 ≤ v) (h2 : v ≤ 9223372036854775807) :
    Calls Tryd.prog 17 #[.int .i64 v, .int .i64 s] w fun e w' => e = .returned (.tuple #[.agg #[.bool (decide (v < 0)), .int .u64 v.natAbs, .int .i64 s], .int .i64 0]) ∧ Below w.heap.size w w' := by
  have HS := Lib.hid (fun W => New_ok v s W hs h1 h2)
  have HF := Lib.hid (fun W => fix_any (decide (v < 0)) s v.natAbs W hs)
  generalize decide (v < 0) = b at HS HF ⊢
  generalize v.natAbs = n at HS HF ⊢
  go_enter Tryd.func17, Tryd.ntmps17
  go_wp2_with (first | (go_at_call 44; refine (HS.out _).mono ?_; rintro e w1 ⟨rfl, hb⟩; obtain ⟨H3, hb1⟩ := made3 hb; have HB := Lib.hid hb1; clear hb hb1) | (go_at_call 45; refine (HF.out _).mono ?_; rintro e w2 ⟨rfl, hb⟩; have hb2 := below_one _ hb; obtain ⟨c0, c1, c2, f0, f1, f2, hz⟩ := H3.below hb2; have HB2 := Lib.hid (below_by HB.out hb2); clear hb hb2))
  exact bodyPost_ret (v := .tuple #[.agg #[.bool b, .int .u64 n, .int .i64 s], .int .i64 0]) (by simp [results, Tryd.results17, go_sem, c0, c1, c2, f0, f1, f2, hz]) rfl ⟨rfl, ((HB2.out.setCell (Nat.le_refl _) _).setCell (Nat.le_refl _) _).setCell (Nat.le_refl _) _⟩

theorem fixNew_bad (v s : Int) (w : World) (hs : s < 0 ∨ 19 < s) (h1 : -9223372036854775808 ≤ v) (h2 : v ≤ 9223372036854775807) (he : ErrAt w) :
    Calls Tryd.prog 17 #[.int .i64 v, .int .i64 s] w fun e w' => e = .returned (.tuple #[.agg #[.bool false, .int .u64 0, .int .i64 0], .int .i64 1]) ∧ Below w.heap.size w w' := by
  have HS : Hid (∀ o, Calls Tryd.prog 44 #[.int .i64 v, .int .i64 s] (w.alloc o) fun e w' => (∃ t u, e = .returned (.tuple #[.agg #[.bool false, .int .i8 0, .int .u64 0], .iface t u])) ∧ Below (w.alloc o).heap.size (w.alloc o) w') := fun o => New_bad v s _ hs h1 h2 (he.below ((Below.refl w.heap.size w).alloc (Nat.le_refl _) o))
  clear hs he
  go_enter Tryd.func17, Tryd.ntmps17
  go_wp2_with (first | (go_at_call 44; refine (HS.out _).mono ?_; rintro e w1 ⟨⟨t, u, rfl⟩, hb⟩; obtain ⟨H3, hb1⟩ := made3 hb; obtain ⟨c0, c1, c2, f0, f1, f2, hz⟩ := H3; have HB := Lib.hid hb1; clear hb hb1))
  exact bodyPost_ret (v := .tuple #[.agg #[.bool false, .int .u64 0, .int .i64 0], .int .i64 1]) (by simp [results, Tryd.results17, go_sem, c0, c1, c2, f0, f1, f2, hz]) rfl ⟨rfl, below_at (((HB.out.setCell (Nat.le_refl _) _).setCell (Nat.le_refl _) _).setCell (Nat.le_refl _) _) _⟩
end Go.Proofs.YthkmgjkajllemaaDoor.Make

/- Whole numbers, fractions and decimal numbers of the reference, as contracts on numbers. -/
namespace Go.Proofs.YthkmgjkajllemaaDoor.Spec
open Go.RowKit Go.Proofs.YthkmgjkajllemaaDoorW.PrintWords Go.Proofs.YthkmgjkajllemaaDoor.Num Go.Proofs.YthkmgjkajllemaaDoor.Str Go.Proofs.YthkmgjkajllemaaDoor.Nats Go.Proofs.YthkmgjkajllemaaDoor.Val Go.Proofs.YthkmgjkajllemaaDoor.Arith Go.Proofs.YthkmgjkajllemaaDoor.NatOps Go.Proofs.YthkmgjkajllemaaDoor.Make
set_option linter.unusedVariables false
set_option linter.unusedSimpArgs false

theorem limbs_len_pos (n : Nat) : 0 < (limbs n).length ↔ 0 < n := by
  have := rest_pos n 0
  rw [rest_zero] at this
  exact this

/-- wholeOf: a sign counts where the number is not 0. -/
theorem wholeMk_any (b : Bool) (u : Value) (n : Nat) (w : World) (hu : IsNat w u n) :
    Calls Tryd.prog 62 #[.bool b, u] w fun e w' => e = .returned (.agg #[.bool (b && decide (0 < n)), u]) ∧ Below w.heap.size w w' := by
  have hp := limbs_len_pos n
  obtain ⟨A, c, rfl, hc, hr⟩ := hu
  clear hc hr
  by_cases hn : 0 < n
  · have hl : 0 < (limbs n).length := hp.2 hn
    rw [show (b && decide (0 < n)) = b by simp [hn]]
    clear hp hn
    cases b
    · go_enter Tryd.func62, Tryd.ntmps62
      go_wp2
      exact bodyPost_ret (v := .agg #[.bool false, .slice A (limbs n).length c]) (by simp [results, Tryd.results62, go_sem]) rfl ⟨rfl, (Below.refl _ _).alloc (Nat.le_refl _) _⟩
    · go_enter Tryd.func62, Tryd.ntmps62
      go_wp2
      exact bodyPost_ret (v := .agg #[.bool true, .slice A (limbs n).length c]) (by simp [results, Tryd.results62, go_sem]) rfl ⟨rfl, (Below.refl _ _).alloc (Nat.le_refl _) _⟩
  · obtain rfl : n = 0 := by omega
    rw [show (b && decide (0 < 0)) = false by simp, show (limbs 0).length = 0 by rw [limbs_zero]; rfl]
    clear hp hn
    cases b
    · go_enter Tryd.func62, Tryd.ntmps62
      go_wp2
      exact bodyPost_ret (v := .agg #[.bool false, .slice A 0 c]) (by simp [results, Tryd.results62, go_sem]) rfl ⟨rfl, (Below.refl _ _).alloc (Nat.le_refl _) _⟩
    · go_enter Tryd.func62, Tryd.ntmps62
      go_wp2
      exact bodyPost_ret (v := .agg #[.bool false, .slice A 0 c]) (by simp [results, Tryd.results62, go_sem]) rfl ⟨rfl, (Below.refl _ _).alloc (Nat.le_refl _) _⟩

/-- one. -/
theorem one_any (w : World) :
    Calls Tryd.prog 55 #[] w fun e w' => ∃ r, e = .returned r ∧ IsNew w' w.heap.size r 1 ∧ Below w.heap.size w w' := by
  have HB := Aside0.mk (Below.refl w.heap.size w)
  go_enter Tryd.func55, Tryd.ntmps55
  go_wp2_with (first | ((with_reducible refine gate_dst (N := 1) rfl ?_); go_must (refine Kd.R_lit (w0 := w) (Kd.int .u32) w.heap.size 69 rfl (N := 1) rfl (xs := ([1] : List Int)) (inner := [.int .u32 1]) (ok := fun _ => True) (okp := fun _ => True) (by first | (go_simp; done) | (go_simp; rfl)) (Reps.one rfl (Reps.none _ _)) (fun _ hk => hk) trivial HB.out HB.out.size (by simp) ?_); intro v5 w2 ho hb hg hn; have HO := Aside0.mk ho; have HB2 := Aside0.mk hb; clear ho hb hg hn))
  go_ret
  exact ⟨_, rfl, by unfold IsNew; rw [limbs_one 1 (by omega) (by omega)]; exact V_of_R HO.out, HB2.out⟩

/-- Cells of memory. -/
def Cells (W : World) : List (Nat × Nat × Value) → Prop
  | [] => True
  | (b, o, v) :: l => W.cell? ⟨b, o, none⟩ = some v ∧ Cells W l
theorem Cells.call {W W' : World} (hb : Below W.heap.size W W') : ∀ {l : List (Nat × Nat × Value)}, Cells W l → Cells W' l
  | [], _ => trivial
  | (b, o, v) :: l, h => ⟨pw_cell_below hb h.1, Cells.call hb h.2⟩
theorem old_at {w : World} {b i : Nat} {v : Value} (h : w.cell? ⟨b, i, none⟩ = some v) (o : Obj) : (w.alloc o).cell? ⟨b, i, none⟩ = some v :=
  (((Below.refl w.heap.size w).alloc (Nat.le_refl _) o).cell (p := ⟨b, i, none⟩) (World.block_lt_of_cell? w _ h)).trans h
theorem Cells.alloc {W : World} (o : Obj) : ∀ {l : List (Nat × Nat × Value)}, Cells W l → Cells (W.alloc o) l
  | [], _ => trivial
  | (b, i, v) :: l, h => ⟨old_at h.1 o, Cells.alloc o h.2⟩
theorem Cells.nil (W : World) : Cells W [] := trivial
theorem Cells.box2 {W : World} {l : List (Nat × Nat × Value)} {b : Nat} (h : Cells W l) (hb : W.heap.size = b) (u v : Value) (T : TypeId) : Cells (W.alloc (.cells #[u, v] T)) ((b, 0, u) :: (b, 1, v) :: l) := by
  subst hb
  exact ⟨by simp, by simp, h.alloc _⟩
theorem Cells.box3 {W : World} {l : List (Nat × Nat × Value)} {b : Nat} (h : Cells W l) (hb : W.heap.size = b) (u v x : Value) (T : TypeId) : Cells (W.alloc (.cells #[u, v, x] T)) ((b, 0, u) :: (b, 1, v) :: (b, 2, x) :: l) := by
  subst hb
  exact ⟨by simp, by simp, by simp, h.alloc _⟩
theorem free_box {W : World} {b : Nat} (hb : W.heap.size = b) (cs : Array Value) (T : TypeId) (o : Nat) : (W.alloc (.cells cs T)).frozen? ⟨b, o, none⟩ = false := by
  subst hb
  simp
/-- What is held in the middle of a function: cells, the result's block g (of k cells), what was there before. -/
structure St (w W : World) (l : List (Nat × Nat × Value)) (g k : Nat) : Prop where
  cells : Cells W l
  free : ∀ o, o < k → W.frozen? ⟨g, o, none⟩ = false
  lt : g < W.heap.size
  below : Below w.heap.size w W
theorem St.call {w W W' : World} {l : List (Nat × Nat × Value)} {g k : Nat} (h : St w W l g k) (hb : Below W.heap.size W W') : St w W' l g k :=
  ⟨h.cells.call hb, fun o ho => (hb.frozen (p := ⟨g, o, none⟩) h.lt).trans (h.free o ho), Nat.lt_of_lt_of_le h.lt hb.size, below_by h.below hb⟩

set_option maxHeartbeats 2000000 in
set_option maxRecDepth 100000 in
/-- The product of two whole numbers. -/
theorem wholeMul_any (x y : Bool) (u v : Value) (m n : Nat) (w : World) (hu : IsNat w u m) (hv : IsNat w v n) (hm : (limbs m).length < 1000000) (hn : (limbs n).length < 1000000) :
    Calls Tryd.prog 70 #[.agg #[.bool x, u], .agg #[.bool y, v]] w fun e w' => ∃ r, e = .returned (.agg #[.bool ((x != y) && decide (0 < m * n)), r]) ∧ IsNew w' w.heap.size r (m * n) ∧ Below w.heap.size w w' := by
  have HM := Lib.hid (fun W hu hv => natMul_any u v m n W hu hv hm hn)
  have HW := Lib.hid (fun b r W hr => wholeMk_any b r (m * n) W hr)
  have HU := Lib.hid (fun (W : World) (hb : Below w.heap.size w W) => hu.below hb)
  have HV := Lib.hid (fun (W : World) (hb : Below w.heap.size w W) => hv.below hb)
  obtain ⟨A, c, rfl, hc, hr⟩ := hu
  obtain ⟨A', c', rfl, hc', hr'⟩ := hv
  have HS : Hid (St w (((w.alloc (.cells #[.bool x, .slice A (limbs m).length c] 37)).alloc (.cells #[.bool y, .slice A' (limbs n).length c'] 37)).alloc (.cells #[.bool false, .slice none 0 0] 37))
      [(w.heap.size + 1 + 1, 0, .bool false), (w.heap.size + 1 + 1, 1, .slice none 0 0), (w.heap.size + 1, 0, .bool y), (w.heap.size + 1, 1, .slice A' (limbs n).length c'), (w.heap.size, 0, .bool x), (w.heap.size, 1, .slice A (limbs m).length c)] (w.heap.size + 1 + 1) 2) :=
    ⟨Cells.box2 (Cells.box2 (Cells.box2 (Cells.nil _) rfl _ _ _) (by simp) _ _ _) (by simp) _ _ _, fun o _ => free_box (by simp) _ _ _, by simp, (((Below.refl _ _).alloc (Nat.le_refl _) _).alloc (by simp) _).alloc (by simp; omega) _⟩
  have hne1 : w.heap.size + 1 + 1 ≠ w.heap.size := by omega
  have hne2 : w.heap.size + 1 + 1 ≠ w.heap.size + 1 := by omega
  clear hr hr' hc hc' hm hn
  generalize decide (0 < m * n) = z at HW ⊢
  generalize m * n = k at HM HW ⊢
  go_enter Tryd.func70, Tryd.ntmps70
  go_wp2
  obtain ⟨W, hW⟩ : ∃ W, ((w.alloc (.cells #[.bool x, .slice A (limbs m).length c] 37)).alloc (.cells #[.bool y, .slice A' (limbs n).length c'] 37)).alloc (.cells #[.bool false, .slice none 0 0] 37) = W := ⟨_, rfl⟩
  rw [hW] at HS ⊢
  clear hW
  have HS1 := Lib.hid (HS.out.call (below_drew (Below.refl _ _)))
  clear HS
  go_region_held3 (fun W' => W'.cell? ⟨w.heap.size + 1, 0, none⟩ = some (.bool y) ∧ W'.cell? ⟨w.heap.size + 1, 1, none⟩ = some (.slice A' (limbs n).length c') ∧ W'.cell? ⟨w.heap.size, 0, none⟩ = some (.bool x) ∧ W'.cell? ⟨w.heap.size, 1, none⟩ = some (.slice A (limbs m).length c))
    (first | exact (by have h := HS3.out.cells.2.2; exact ⟨h.1, h.2.1, h.2.2.1, h.2.2.2.1⟩) | exact (by have h := HS2.out.cells.2.2; exact ⟨h.1, h.2.1, h.2.2.1, h.2.2.2.1⟩) | exact (by have h := HS1.out.cells.2.2; exact ⟨h.1, h.2.1, h.2.2.1, h.2.2.2.1⟩) | go_keep)
    (first | (go_at_call 56; refine (HM.out _ (HU.out _ HS1.out.below) (HV.out _ HS1.out.below)).mono ?_; rintro e w2 ⟨r, rfl, hn, hb⟩; obtain ⟨A2, c2, rfl⟩ := hn.slice; have HS2 := Lib.hid (HS1.out.call hb); have HG2 := Lib.hid hn; clear hn hb) | (go_at_call 62; refine (HW.out _ _ _ HG2.out.isNat).mono ?_; rintro e w3 ⟨rfl, hb⟩; have HS3 := Lib.hid (HS2.out.call hb); obtain ⟨d0, d1, b0, b1, a0, a1, -⟩ := HS3.out.cells; have f0 := HS3.out.free 0 (by omega); have f1 := HS3.out.free 1 (by omega); have hz := HS3.out.lt; have HG3 := Lib.hid (HG2.out.below hb); clear hb))
  all_goals (go_wp2; exact bodyPost_ret (v := .agg #[.bool (!x == y && z), .slice A2 (limbs k).length c2]) (by simp [results, Tryd.results70, go_sem, d0, d1, f0, f1, hz]) rfl ⟨_, rfl, ((HG3.out.set (by have := HS1.out.lt; exact this) _).set (by have := HS1.out.lt; exact this) _).lower HS1.out.below.size, (HS3.out.below.setCell (by show w.heap.size ≤ w.heap.size + 1 + 1; omega) _).setCell (by show w.heap.size ≤ w.heap.size + 1 + 1; omega) _⟩)
end Go.Proofs.YthkmgjkajllemaaDoor.Spec

/- Comparing whole numbers and fractions of the reference. -/
namespace Go.Proofs.YthkmgjkajllemaaDoor.Spec
open Go.RowKit Go.Proofs.YthkmgjkajllemaaDoorW.PrintWords Go.Proofs.YthkmgjkajllemaaDoor.Num Go.Proofs.YthkmgjkajllemaaDoor.Str Go.Proofs.YthkmgjkajllemaaDoor.Nats Go.Proofs.YthkmgjkajllemaaDoor.Val Go.Proofs.YthkmgjkajllemaaDoor.Arith Go.Proofs.YthkmgjkajllemaaDoor.NatOps Go.Proofs.YthkmgjkajllemaaDoor.Make
set_option linter.unusedVariables false
set_option linter.unusedSimpArgs false

/-- How two numbers with a sign compare. -/
def icmp (p q : Int) : Int := if p < q then -1 else if p = q then 0 else 1

theorem icmp_nn {p q : Int} (hp : 0 ≤ p) (hq : 0 ≤ q) : icmp p q = cmp p.natAbs q.natAbs := by
  unfold icmp cmp
  by_cases h : p < q
  · have h3 : p.natAbs < q.natAbs := by omega
    rw [if_pos h, if_pos h3]
  · have h3 : ¬ p.natAbs < q.natAbs := by omega
    rw [if_neg h, if_neg h3]
    by_cases h2 : p = q
    · have h4 : p.natAbs = q.natAbs := by omega
      rw [if_pos h2, if_pos h4]
    · have h4 : ¬ p.natAbs = q.natAbs := by omega
      rw [if_neg h2, if_neg h4]
theorem icmp_neg {p q : Int} (hp : p < 0) (hq : q < 0) : icmp p q = cmp q.natAbs p.natAbs := by
  unfold icmp cmp
  by_cases h : p < q
  · have h3 : q.natAbs < p.natAbs := by omega
    rw [if_pos h, if_pos h3]
  · have h3 : ¬ q.natAbs < p.natAbs := by omega
    rw [if_neg h, if_neg h3]
    by_cases h2 : p = q
    · have h4 : q.natAbs = p.natAbs := by omega
      rw [if_pos h2, if_pos h4]
    · have h4 : ¬ q.natAbs = p.natAbs := by omega
      rw [if_neg h2, if_neg h4]
theorem icmp_lt {p q : Int} (h : p < q) : icmp p q = -1 := if_pos h
theorem icmp_gt {p q : Int} (h : q < p) : icmp p q = 1 := by unfold icmp; rw [if_neg (by omega), if_neg (by omega)]

set_option maxHeartbeats 2000000 in
/-- Whole.Cmp. -/
theorem wholeCmp_any (p q : Int) (u v : Value) (w : World) (hu : IsNat w u p.natAbs) (hv : IsNat w v q.natAbs) (hm : (limbs p.natAbs).length < 1000000) (hn : (limbs q.natAbs).length < 1000000) :
    Calls Tryd.prog 33 #[.agg #[.bool (decide (p < 0)), u], .agg #[.bool (decide (q < 0)), v]] w fun e w' => e = .returned (.int .i64 (icmp p q)) ∧ Below w.heap.size w w' := by
  have hb2 : Below w.heap.size w ((w.alloc (.cells #[.bool (decide (p < 0)), u] 37)).alloc (.cells #[.bool (decide (q < 0)), v] 37)) := ((Below.refl _ _).alloc (Nat.le_refl _) _).alloc (by simp) _
  have hu2 := hu.below hb2
  have hv2 := hv.below hb2
  have h1 := natCmp_any u v _ _ _ hu2 hv2 hm hn
  have h2 := natCmp_any v u _ _ _ hv2 hu2 hn hm
  obtain ⟨A, c, rfl, hc, hr⟩ := hu
  obtain ⟨A', c', rfl, hc', hr'⟩ := hv
  clear hr hr' hc hc' hu2 hv2 hm hn
  by_cases hp : p < 0 <;> by_cases hq : q < 0
  · rw [icmp_neg hp hq]
    rw [show decide (p < 0) = true from decide_eq_true hp, show decide (q < 0) = true from decide_eq_true hq] at *
    have H := Lib.hid h2
    have HB := Lib.hid hb2
    clear h1 h2 hb2 hp hq
    go_enter Tryd.func33, Tryd.ntmps33
    go_wp2_with (first | (go_at_call 60; go_must (refine H.out.mono ?_); rintro e w2 ⟨rfl, hb⟩; have HB2 := Lib.hid (HB.out.trans (hb.mono HB.out.size)); clear hb))
    go_ret
    exact ⟨rfl, HB2.out⟩
  · rw [icmp_lt (by omega)]
    rw [show decide (p < 0) = true from decide_eq_true hp, show decide (q < 0) = false from decide_eq_false hq] at *
    have HB := Lib.hid hb2
    clear h1 h2 hb2 hp hq
    go_enter Tryd.func33, Tryd.ntmps33
    go_wp2
    go_ret
    exact ⟨rfl, HB.out⟩
  · rw [icmp_gt (by omega)]
    rw [show decide (p < 0) = false from decide_eq_false hp, show decide (q < 0) = true from decide_eq_true hq] at *
    have HB := Lib.hid hb2
    clear h1 h2 hb2 hp hq
    go_enter Tryd.func33, Tryd.ntmps33
    go_wp2
    go_ret
    exact ⟨rfl, HB.out⟩
  · rw [icmp_nn (by omega) (by omega)]
    rw [show decide (p < 0) = false from decide_eq_false hp, show decide (q < 0) = false from decide_eq_false hq] at *
    have H := Lib.hid h1
    have HB := Lib.hid hb2
    clear h1 h2 hb2 hp hq
    go_enter Tryd.func33, Tryd.ntmps33
    go_wp2_with (first | (go_at_call 60; go_must (refine H.out.mono ?_); rintro e w2 ⟨rfl, hb⟩; have HB2 := Lib.hid (HB.out.trans (hb.mono HB.out.size)); clear hb))
    go_ret
    exact ⟨rfl, HB2.out⟩

/-- Whole.Mul, with signs. -/
theorem wholeMul_int (p : Int) (d : Nat) (u v : Value) (w : World) (hu : IsNat w u p.natAbs) (hv : IsNat w v d) (hm : (limbs p.natAbs).length < 1000000) (hn : (limbs d).length < 1000000) :
    Calls Tryd.prog 70 #[.agg #[.bool (decide (p < 0)), u], .agg #[.bool false, v]] w fun e w' => ∃ r, e = .returned (.agg #[.bool (decide (p * d < 0)), r]) ∧ IsNew w' w.heap.size r (p * d).natAbs ∧ Below w.heap.size w w' := by
  have h := wholeMul_any (decide (p < 0)) false u v p.natAbs d w hu hv hm hn
  have e1 : (p * (d : Int)).natAbs = p.natAbs * d := by rw [Int.natAbs_mul]; rfl
  have e2 : ((decide (p < 0) != false) && decide (0 < p.natAbs * d)) = decide (p * (d : Int) < 0) := by
    rcases Nat.eq_zero_or_pos d with h0 | h0
    · subst h0; simp
    · by_cases hp : p < 0
      · have h1 : 0 < p.natAbs * d := Nat.mul_pos (by omega) h0
        have h2 : p * (d : Int) < 0 := Int.mul_neg_of_neg_of_pos hp (by omega)
        simp [hp, h1, h2]
      · have h2 : ¬ (p * (d : Int) < 0) := by
          have := Int.mul_nonneg (show 0 ≤ p by omega) (show (0 : Int) ≤ d by omega)
          omega
        simp [hp, h2]
  rw [e2] at h
  rw [e1]
  exact h

set_option maxHeartbeats 800000 in
set_option maxRecDepth 100000 in
/-- Frac.Cmp: p/d beside q/f. -/
theorem fracCmp_any (p q : Int) (d f : Nat) (u v u' v' : Value) (w : World) (hu : IsNat w u p.natAbs) (hv : IsNat w v d) (hu' : IsNat w u' q.natAbs) (hv' : IsNat w v' f)
    (hp : (limbs p.natAbs).length < 1000) (hd : (limbs d).length < 1000) (hq : (limbs q.natAbs).length < 1000) (hf : (limbs f).length < 1000)
    (hpf : (limbs (p * f).natAbs).length < 1000000) (hqd : (limbs (q * d).natAbs).length < 1000000) :
    Calls Tryd.prog 36 #[.agg #[.bool (decide (p < 0)), u, v], .agg #[.bool (decide (q < 0)), u', v']] w fun e w' => e = .returned (.int .i64 (icmp (p * f) (q * d))) ∧ Below w.heap.size w w' := by
  have HM1 := Lib.hid (fun W h1 h2 => wholeMul_int p f u v' W h1 h2 (by omega) (by omega))
  have HM2 := Lib.hid (fun W h1 h2 => wholeMul_int q d u' v W h1 h2 (by omega) (by omega))
  have HC := Lib.hid (fun r r' W h1 h2 => wholeCmp_any (p * f) (q * d) r r' W h1 h2 hpf hqd)
  have HU := Lib.hid (fun (W : World) (hb : Below w.heap.size w W) => hu.below hb)
  have HV := Lib.hid (fun (W : World) (hb : Below w.heap.size w W) => hv.below hb)
  have HU' := Lib.hid (fun (W : World) (hb : Below w.heap.size w W) => hu'.below hb)
  have HV' := Lib.hid (fun (W : World) (hb : Below w.heap.size w W) => hv'.below hb)
  obtain ⟨A, c, rfl, hc, hr⟩ := hu
  obtain ⟨B, cb, rfl, hcb, hrb⟩ := hv
  obtain ⟨A', c', rfl, hc', hr'⟩ := hu'
  obtain ⟨B', cb', rfl, hcb', hrb'⟩ := hv'
  clear hc hr hcb hrb hc' hr' hcb' hrb' hp hd hq hf hpf hqd
  generalize decide (p < 0) = x at HM1 ⊢
  generalize decide (q < 0) = y at HM2 ⊢
  generalize decide (p * (f : Int) < 0) = x2 at HM1 HC ⊢
  generalize decide (q * (d : Int) < 0) = y2 at HM2 HC ⊢
  generalize icmp (p * f) (q * d) = res at HC ⊢
  generalize (p * (f : Int)).natAbs = m at HM1 HC ⊢
  generalize (q * (d : Int)).natAbs = n at HM2 HC ⊢
  generalize (limbs p.natAbs).length = lp at *
  generalize (limbs q.natAbs).length = lq at *
  generalize (limbs d).length = ld at *
  generalize (limbs f).length = lf at *
  have HS : Hid (St w ((w.alloc (.cells #[.bool x, .slice A lp c, .slice B ld cb] 45)).alloc (.cells #[.bool y, .slice A' lq c', .slice B' lf cb'] 45))
      [(w.heap.size + 1, 0, .bool y), (w.heap.size + 1, 1, .slice A' lq c'), (w.heap.size + 1, 2, .slice B' lf cb'), (w.heap.size, 0, .bool x), (w.heap.size, 1, .slice A lp c), (w.heap.size, 2, .slice B ld cb)] (w.heap.size + 1) 3) :=
    ⟨Cells.box3 (Cells.box3 (Cells.nil _) rfl _ _ _ _) (by simp) _ _ _ _, fun o _ => free_box (by simp) _ _ _, by simp, ((Below.refl _ _).alloc (Nat.le_refl _) _).alloc (by simp) _⟩
  go_enter Tryd.func36, Tryd.ntmps36
  go_wp2
  obtain ⟨W, hW⟩ : ∃ W, (w.alloc (.cells #[.bool x, .slice A lp c, .slice B ld cb] 45)).alloc (.cells #[.bool y, .slice A' lq c', .slice B' lf cb'] 45) = W := ⟨_, rfl⟩
  rw [hW] at HS ⊢
  clear hW
  have HS1 := Lib.hid (HS.out.call (below_drew (Below.refl _ _)))
  clear HS
  go_region_held3 (fun W' => W'.cell? ⟨w.heap.size + 1, 0, none⟩ = some (.bool y) ∧ W'.cell? ⟨w.heap.size + 1, 1, none⟩ = some (.slice A' lq c') ∧ W'.cell? ⟨w.heap.size + 1, 2, none⟩ = some (.slice B' lf cb') ∧ W'.cell? ⟨w.heap.size, 0, none⟩ = some (.bool x) ∧ W'.cell? ⟨w.heap.size, 1, none⟩ = some (.slice A lp c) ∧ W'.cell? ⟨w.heap.size, 2, none⟩ = some (.slice B ld cb))
    (first | exact (by have h := HS4.out.cells; exact ⟨h.1, h.2.1, h.2.2.1, h.2.2.2.1, h.2.2.2.2.1, h.2.2.2.2.2.1⟩) | exact (by have h := HS3.out.cells; exact ⟨h.1, h.2.1, h.2.2.1, h.2.2.2.1, h.2.2.2.2.1, h.2.2.2.2.2.1⟩) | exact (by have h := HS2.out.cells; exact ⟨h.1, h.2.1, h.2.2.1, h.2.2.2.1, h.2.2.2.2.1, h.2.2.2.2.2.1⟩) | exact (by have h := HS1.out.cells; exact ⟨h.1, h.2.1, h.2.2.1, h.2.2.2.1, h.2.2.2.2.1, h.2.2.2.2.2.1⟩) | go_keep)
    (first | (go_at_call 70; with_reducible refine (HM1.out _ (HU.out _ HS1.out.below) (HV'.out _ HS1.out.below)).mono ?_; rintro e w2 ⟨r, rfl, hn, hb⟩; have HS2 := Lib.hid (HS1.out.call hb); have HG2 := Lib.hid hn; obtain ⟨A2, c2, rfl⟩ := hn.slice; clear hn hb) | (go_at_call 70; with_reducible refine (HM2.out _ (HU'.out _ HS2.out.below) (HV.out _ HS2.out.below)).mono ?_; rintro e w3 ⟨r, rfl, hn, hb⟩; have HS3 := Lib.hid (HS2.out.call hb); have HG3 := Lib.hid (HG2.out.below hb); have HG3' := Lib.hid hn; obtain ⟨A3, c3, rfl⟩ := hn.slice; clear hn hb) | (go_at_call 33; refine (HC.out _ _ _ HG3.out.isNat HG3'.out.isNat).mono ?_; rintro e w4 ⟨rfl, hb⟩; have HS4 := Lib.hid (HS3.out.call hb); clear hb))
  all_goals (go_wp2; go_ret; exact ⟨rfl, HS4.out.below⟩)
end Go.Proofs.YthkmgjkajllemaaDoor.Spec

/- Whole.Add, Whole.Minus and Frac.Add of the reference. -/
namespace Go.Proofs.YthkmgjkajllemaaDoor.Spec
open Go.RowKit Go.Proofs.YthkmgjkajllemaaDoorW.PrintWords Go.Proofs.YthkmgjkajllemaaDoor.Num Go.Proofs.YthkmgjkajllemaaDoor.Str Go.Proofs.YthkmgjkajllemaaDoor.Nats Go.Proofs.YthkmgjkajllemaaDoor.Val Go.Proofs.YthkmgjkajllemaaDoor.Arith Go.Proofs.YthkmgjkajllemaaDoor.NatOps Go.Proofs.YthkmgjkajllemaaDoor.Make
set_option linter.unusedVariables false
set_option linter.unusedSimpArgs false

set_option maxHeartbeats 2000000 in
set_option maxRecDepth 100000 in
theorem wholeAdd_same (x y : Bool) (m n : Nat) (u v : Value) (w : World) (hu : IsNat w u m) (hv : IsNat w v n) (hm : (limbs m).length < 100000) (hn : (limbs n).length < 100000) (hxy : (x == y) = true) :
    Calls Tryd.prog 31 #[.agg #[.bool x, u], .agg #[.bool y, v]] w fun e w' => ∃ r, e = .returned (.agg #[.bool (x && decide (0 < m + n)), r]) ∧ IsNew w' w.heap.size r (m + n) ∧ Below w.heap.size w w' := by
  have HM := Lib.hid (fun W hu hv => natAdd_any u v m n W hu hv (by omega) (by omega))
  have HW := Lib.hid (fun r W hr => wholeMk_any x r (m + n) W hr)
  have HC := Lib.hid (fun W hu hv => natCmp_any u v m n W hu hv (by omega) (by omega))
  have HU := Lib.hid (fun (W : World) (hb : Below w.heap.size w W) => hu.below hb)
  have HV := Lib.hid (fun (W : World) (hb : Below w.heap.size w W) => hv.below hb)
  obtain ⟨A, c, rfl, hc, hr⟩ := hu
  obtain ⟨A', c', rfl, hc', hr'⟩ := hv
  have HS : Hid (St w (((w.alloc (.cells #[.bool x, .slice A (limbs m).length c] 37)).alloc (.cells #[.bool y, .slice A' (limbs n).length c'] 37)).alloc (.cells #[.bool false, .slice none 0 0] 37))
      [(w.heap.size + 1 + 1, 0, .bool false), (w.heap.size + 1 + 1, 1, .slice none 0 0), (w.heap.size + 1, 0, .bool y), (w.heap.size + 1, 1, .slice A' (limbs n).length c'), (w.heap.size, 0, .bool x), (w.heap.size, 1, .slice A (limbs m).length c)] (w.heap.size + 1 + 1) 2) :=
    ⟨Cells.box2 (Cells.box2 (Cells.box2 (Cells.nil _) rfl _ _ _) (by simp) _ _ _) (by simp) _ _ _, fun o _ => free_box (by simp) _ _ _, by simp, (((Below.refl _ _).alloc (Nat.le_refl _) _).alloc (by simp) _).alloc (by simp; omega) _⟩
  have hne1 : w.heap.size + 1 + 1 ≠ w.heap.size := by omega
  have hne2 : w.heap.size + 1 + 1 ≠ w.heap.size + 1 := by omega
  clear hr hr' hc hc' hm hn
  generalize decide (0 < m + n) = z at HW ⊢
  generalize hk0 : m + n = k at HM HW ⊢
  clear hk0
  go_enter Tryd.func31, Tryd.ntmps31
  go_wp2
  obtain ⟨W, hW⟩ : ∃ W, ((w.alloc (.cells #[.bool x, .slice A (limbs m).length c] 37)).alloc (.cells #[.bool y, .slice A' (limbs n).length c'] 37)).alloc (.cells #[.bool false, .slice none 0 0] 37) = W := ⟨_, rfl⟩
  rw [hW] at HS ⊢
  clear hW
  have HS1 := Lib.hid (HS.out.call (below_drew (Below.refl _ _)))
  clear HS
  go_region_held3 (fun W' => W'.cell? ⟨w.heap.size + 1, 0, none⟩ = some (.bool y) ∧ W'.cell? ⟨w.heap.size + 1, 1, none⟩ = some (.slice A' (limbs n).length c') ∧ W'.cell? ⟨w.heap.size, 0, none⟩ = some (.bool x) ∧ W'.cell? ⟨w.heap.size, 1, none⟩ = some (.slice A (limbs m).length c))
    (first | exact (by have h := HS3.out.cells.2.2; exact ⟨h.1, h.2.1, h.2.2.1, h.2.2.2.1⟩) | exact (by have h := HS2.out.cells.2.2; exact ⟨h.1, h.2.1, h.2.2.1, h.2.2.2.1⟩) | exact (by have h := HS1.out.cells.2.2; exact ⟨h.1, h.2.1, h.2.2.1, h.2.2.2.1⟩) | go_keep)
    (first | (go_at_call 61; refine (HM.out _ (HU.out _ HS1.out.below) (HV.out _ HS1.out.below)).mono ?_; rintro e w2 ⟨r, rfl, hn, hb⟩; obtain ⟨A2, c2, rfl⟩ := hn.slice; have HS2 := Lib.hid (HS1.out.call hb); have HG2 := Lib.hid hn; clear hn hb) | (go_at_call 62; refine (HW.out _ _ HG2.out.isNat).mono ?_; rintro e w3 ⟨rfl, hb⟩; have HS3 := Lib.hid (HS2.out.call hb); obtain ⟨d0, d1, b0, b1, a0, a1, -⟩ := HS3.out.cells; have f0 := HS3.out.free 0 (by omega); have f1 := HS3.out.free 1 (by omega); have hz := HS3.out.lt; have HG3 := Lib.hid (HG2.out.below hb); clear hb))
  all_goals (go_wp2; exact bodyPost_ret (v := .agg #[.bool (x && z), .slice A2 (limbs k).length c2]) (by simp [results, Tryd.results31, go_sem, d0, d1, f0, f1, hz]) rfl ⟨_, rfl, ((HG3.out.set (by have := HS1.out.lt; exact this) _).set (by have := HS1.out.lt; exact this) _).lower HS1.out.below.size, (HS3.out.below.setCell (by show w.heap.size ≤ w.heap.size + 1 + 1; omega) _).setCell (by show w.heap.size ≤ w.heap.size + 1 + 1; omega) _⟩)
set_option maxHeartbeats 2000000 in
set_option maxRecDepth 100000 in
theorem wholeAdd_first (x y : Bool) (m n : Nat) (u v : Value) (w : World) (hu : IsNat w u m) (hv : IsNat w v n) (hm : (limbs m).length < 100000) (hn : (limbs n).length < 100000) (hxy : (x == y) = false) (hmn : n ≤ m) :
    Calls Tryd.prog 31 #[.agg #[.bool x, u], .agg #[.bool y, v]] w fun e w' => ∃ r, e = .returned (.agg #[.bool (x && decide (0 < m - n)), r]) ∧ IsNew w' w.heap.size r (m - n) ∧ Below w.heap.size w w' := by
  have HM := Lib.hid (fun W hu hv => natSub_any u v m n W hu hv (by omega) hmn)
  have HW := Lib.hid (fun r W hr => wholeMk_any x r (m - n) W hr)
  have HC := Lib.hid (fun W hu hv => natCmp_any u v m n W hu hv (by omega) (by omega))
  have HU := Lib.hid (fun (W : World) (hb : Below w.heap.size w W) => hu.below hb)
  have HV := Lib.hid (fun (W : World) (hb : Below w.heap.size w W) => hv.below hb)
  obtain ⟨A, c, rfl, hc, hr⟩ := hu
  obtain ⟨A', c', rfl, hc', hr'⟩ := hv
  have HS : Hid (St w (((w.alloc (.cells #[.bool x, .slice A (limbs m).length c] 37)).alloc (.cells #[.bool y, .slice A' (limbs n).length c'] 37)).alloc (.cells #[.bool false, .slice none 0 0] 37))
      [(w.heap.size + 1 + 1, 0, .bool false), (w.heap.size + 1 + 1, 1, .slice none 0 0), (w.heap.size + 1, 0, .bool y), (w.heap.size + 1, 1, .slice A' (limbs n).length c'), (w.heap.size, 0, .bool x), (w.heap.size, 1, .slice A (limbs m).length c)] (w.heap.size + 1 + 1) 2) :=
    ⟨Cells.box2 (Cells.box2 (Cells.box2 (Cells.nil _) rfl _ _ _) (by simp) _ _ _) (by simp) _ _ _, fun o _ => free_box (by simp) _ _ _, by simp, (((Below.refl _ _).alloc (Nat.le_refl _) _).alloc (by simp) _).alloc (by simp; omega) _⟩
  have hne1 : w.heap.size + 1 + 1 ≠ w.heap.size := by omega
  have hne2 : w.heap.size + 1 + 1 ≠ w.heap.size + 1 := by omega
  obtain ⟨tc, htc, hg⟩ : ∃ t, cmp m n = t ∧ decide (0 ≤ t) = true := by
    refine ⟨_, rfl, decide_eq_true ?_⟩
    unfold cmp
    rw [if_neg (by omega)]
    split <;> omega
  rw [htc] at HC
  clear htc
  clear hr hr' hc hc' hm hn
  generalize decide (0 < m - n) = z at HW ⊢
  generalize hk0 : m - n = k at HM HW ⊢
  clear hk0
  go_enter Tryd.func31, Tryd.ntmps31
  go_wp2_with (first | (go_at_call 60; go_must (refine (HC.out _ (HU.out _ HS.out.below) (HV.out _ HS.out.below)).mono ?_); rintro e w1 ⟨rfl, hb⟩; have HSC := Lib.hid (HS.out.call hb); clear hb))
  obtain ⟨W, hW⟩ : ∃ W, w1 = W := ⟨_, rfl⟩
  rw [hW] at HSC ⊢
  clear hW
  have HS1 := Lib.hid (HSC.out.call (below_drew (Below.refl _ _)))
  clear HS
  go_region_held3 (fun W' => W'.cell? ⟨w.heap.size + 1, 0, none⟩ = some (.bool y) ∧ W'.cell? ⟨w.heap.size + 1, 1, none⟩ = some (.slice A' (limbs n).length c') ∧ W'.cell? ⟨w.heap.size, 0, none⟩ = some (.bool x) ∧ W'.cell? ⟨w.heap.size, 1, none⟩ = some (.slice A (limbs m).length c))
    (first | exact (by have h := HS3.out.cells.2.2; exact ⟨h.1, h.2.1, h.2.2.1, h.2.2.2.1⟩) | exact (by have h := HS2.out.cells.2.2; exact ⟨h.1, h.2.1, h.2.2.1, h.2.2.2.1⟩) | exact (by have h := HS1.out.cells.2.2; exact ⟨h.1, h.2.1, h.2.2.1, h.2.2.2.1⟩) | go_keep)
    (first | (go_at_call 67; refine (HM.out _ (HU.out _ HS1.out.below) (HV.out _ HS1.out.below)).mono ?_; rintro e w2 ⟨r, rfl, hn, hb⟩; obtain ⟨A2, c2, rfl⟩ := hn.slice; have HS2 := Lib.hid (HS1.out.call hb); have HG2 := Lib.hid hn; clear hn hb) | (go_at_call 62; refine (HW.out _ _ HG2.out.isNat).mono ?_; rintro e w3 ⟨rfl, hb⟩; have HS3 := Lib.hid (HS2.out.call hb); obtain ⟨d0, d1, b0, b1, a0, a1, -⟩ := HS3.out.cells; have f0 := HS3.out.free 0 (by omega); have f1 := HS3.out.free 1 (by omega); have hz := HS3.out.lt; have HG3 := Lib.hid (HG2.out.below hb); clear hb))
  all_goals (go_wp2; exact bodyPost_ret (v := .agg #[.bool (x && z), .slice A2 (limbs k).length c2]) (by simp [results, Tryd.results31, go_sem, d0, d1, f0, f1, hz]) rfl ⟨_, rfl, ((HG3.out.set (by have := HS1.out.lt; exact this) _).set (by have := HS1.out.lt; exact this) _).lower HS1.out.below.size, (HS3.out.below.setCell (by show w.heap.size ≤ w.heap.size + 1 + 1; omega) _).setCell (by show w.heap.size ≤ w.heap.size + 1 + 1; omega) _⟩)
set_option maxHeartbeats 2000000 in
set_option maxRecDepth 100000 in
theorem wholeAdd_second (x y : Bool) (m n : Nat) (u v : Value) (w : World) (hu : IsNat w u m) (hv : IsNat w v n) (hm : (limbs m).length < 100000) (hn : (limbs n).length < 100000) (hxy : (x == y) = false) (hmn : m < n) :
    Calls Tryd.prog 31 #[.agg #[.bool x, u], .agg #[.bool y, v]] w fun e w' => ∃ r, e = .returned (.agg #[.bool (y && decide (0 < n - m)), r]) ∧ IsNew w' w.heap.size r (n - m) ∧ Below w.heap.size w w' := by
  have HM := Lib.hid (fun W hu hv => natSub_any v u n m W hv hu (by omega) (by omega))
  have HW := Lib.hid (fun r W hr => wholeMk_any y r (n - m) W hr)
  have HC := Lib.hid (fun W hu hv => natCmp_any u v m n W hu hv (by omega) (by omega))
  have HU := Lib.hid (fun (W : World) (hb : Below w.heap.size w W) => hu.below hb)
  have HV := Lib.hid (fun (W : World) (hb : Below w.heap.size w W) => hv.below hb)
  obtain ⟨A, c, rfl, hc, hr⟩ := hu
  obtain ⟨A', c', rfl, hc', hr'⟩ := hv
  have HS : Hid (St w (((w.alloc (.cells #[.bool x, .slice A (limbs m).length c] 37)).alloc (.cells #[.bool y, .slice A' (limbs n).length c'] 37)).alloc (.cells #[.bool false, .slice none 0 0] 37))
      [(w.heap.size + 1 + 1, 0, .bool false), (w.heap.size + 1 + 1, 1, .slice none 0 0), (w.heap.size + 1, 0, .bool y), (w.heap.size + 1, 1, .slice A' (limbs n).length c'), (w.heap.size, 0, .bool x), (w.heap.size, 1, .slice A (limbs m).length c)] (w.heap.size + 1 + 1) 2) :=
    ⟨Cells.box2 (Cells.box2 (Cells.box2 (Cells.nil _) rfl _ _ _) (by simp) _ _ _) (by simp) _ _ _, fun o _ => free_box (by simp) _ _ _, by simp, (((Below.refl _ _).alloc (Nat.le_refl _) _).alloc (by simp) _).alloc (by simp; omega) _⟩
  have hne1 : w.heap.size + 1 + 1 ≠ w.heap.size := by omega
  have hne2 : w.heap.size + 1 + 1 ≠ w.heap.size + 1 := by omega
  obtain ⟨tc, htc, hg⟩ : ∃ t, cmp m n = t ∧ decide (0 ≤ t) = false := by
    refine ⟨_, rfl, decide_eq_false ?_⟩
    unfold cmp
    rw [if_pos (by omega)]
    omega
  rw [htc] at HC
  clear htc
  clear hr hr' hc hc' hm hn
  generalize decide (0 < n - m) = z at HW ⊢
  generalize hk0 : n - m = k at HM HW ⊢
  clear hk0
  go_enter Tryd.func31, Tryd.ntmps31
  go_wp2_with (first | (go_at_call 60; go_must (refine (HC.out _ (HU.out _ HS.out.below) (HV.out _ HS.out.below)).mono ?_); rintro e w1 ⟨rfl, hb⟩; have HSC := Lib.hid (HS.out.call hb); clear hb))
  obtain ⟨W, hW⟩ : ∃ W, w1 = W := ⟨_, rfl⟩
  rw [hW] at HSC ⊢
  clear hW
  have HS1 := Lib.hid (HSC.out.call (below_drew (Below.refl _ _)))
  clear HS
  go_region_held3 (fun W' => W'.cell? ⟨w.heap.size + 1, 0, none⟩ = some (.bool y) ∧ W'.cell? ⟨w.heap.size + 1, 1, none⟩ = some (.slice A' (limbs n).length c') ∧ W'.cell? ⟨w.heap.size, 0, none⟩ = some (.bool x) ∧ W'.cell? ⟨w.heap.size, 1, none⟩ = some (.slice A (limbs m).length c))
    (first | exact (by have h := HS3.out.cells.2.2; exact ⟨h.1, h.2.1, h.2.2.1, h.2.2.2.1⟩) | exact (by have h := HS2.out.cells.2.2; exact ⟨h.1, h.2.1, h.2.2.1, h.2.2.2.1⟩) | exact (by have h := HS1.out.cells.2.2; exact ⟨h.1, h.2.1, h.2.2.1, h.2.2.2.1⟩) | go_keep)
    (first | (go_at_call 67; refine (HM.out _ (HU.out _ HS1.out.below) (HV.out _ HS1.out.below)).mono ?_; rintro e w2 ⟨r, rfl, hn, hb⟩; obtain ⟨A2, c2, rfl⟩ := hn.slice; have HS2 := Lib.hid (HS1.out.call hb); have HG2 := Lib.hid hn; clear hn hb) | (go_at_call 62; refine (HW.out _ _ HG2.out.isNat).mono ?_; rintro e w3 ⟨rfl, hb⟩; have HS3 := Lib.hid (HS2.out.call hb); obtain ⟨d0, d1, b0, b1, a0, a1, -⟩ := HS3.out.cells; have f0 := HS3.out.free 0 (by omega); have f1 := HS3.out.free 1 (by omega); have hz := HS3.out.lt; have HG3 := Lib.hid (HG2.out.below hb); clear hb))
  all_goals (go_wp2; exact bodyPost_ret (v := .agg #[.bool (y && z), .slice A2 (limbs k).length c2]) (by simp [results, Tryd.results31, go_sem, d0, d1, f0, f1, hz]) rfl ⟨_, rfl, ((HG3.out.set (by have := HS1.out.lt; exact this) _).set (by have := HS1.out.lt; exact this) _).lower HS1.out.below.size, (HS3.out.below.setCell (by show w.heap.size ≤ w.heap.size + 1 + 1; omega) _).setCell (by show w.heap.size ≤ w.heap.size + 1 + 1; omega) _⟩)
/-- Whole.Add on numbers. -/
theorem wholeAdd_int (p q : Int) (u v : Value) (w : World) (hu : IsNat w u p.natAbs) (hv : IsNat w v q.natAbs) (hm : (limbs p.natAbs).length < 100000) (hn : (limbs q.natAbs).length < 100000) :
    Calls Tryd.prog 31 #[.agg #[.bool (decide (p < 0)), u], .agg #[.bool (decide (q < 0)), v]] w fun e w' => ∃ r, e = .returned (.agg #[.bool (decide (p + q < 0)), r]) ∧ IsNew w' w.heap.size r (p + q).natAbs ∧ Below w.heap.size w w' := by
  by_cases hxy : (p < 0 ↔ q < 0)
  · have h := wholeAdd_same (decide (p < 0)) (decide (q < 0)) p.natAbs q.natAbs u v w hu hv hm hn (by simp [hxy])
    rw [show (decide (p < 0) && decide (0 < p.natAbs + q.natAbs)) = decide (p + q < 0) by rw [Bool.eq_iff_iff]; simp; omega, show p.natAbs + q.natAbs = (p + q).natAbs by omega] at h
    exact h
  · have hx : (decide (p < 0) == decide (q < 0)) = false := by
      rw [beq_eq_false_iff_ne]
      intro h
      exact hxy (decide_eq_decide.1 h)
    by_cases hmn : q.natAbs ≤ p.natAbs
    · have h := wholeAdd_first (decide (p < 0)) (decide (q < 0)) p.natAbs q.natAbs u v w hu hv hm hn hx hmn
      rw [show (decide (p < 0) && decide (0 < p.natAbs - q.natAbs)) = decide (p + q < 0) by rw [Bool.eq_iff_iff]; simp; omega, show p.natAbs - q.natAbs = (p + q).natAbs by omega] at h
      exact h
    · have h := wholeAdd_second (decide (p < 0)) (decide (q < 0)) p.natAbs q.natAbs u v w hu hv hm hn hx (by omega)
      rw [show (decide (q < 0) && decide (0 < q.natAbs - p.natAbs)) = decide (p + q < 0) by rw [Bool.eq_iff_iff]; simp; omega, show q.natAbs - p.natAbs = (p + q).natAbs by omega] at h
      exact h
/-- Whole.Minus on numbers. -/
theorem wholeMinus_int (p : Int) (u : Value) (w : World) (hu : IsNat w u p.natAbs) :
    Calls Tryd.prog 34 #[.agg #[.bool (decide (p < 0)), u]] w fun e w' => e = .returned (.agg #[.bool (decide (-p < 0)), u]) ∧ Below w.heap.size w w' := by
  have HW := Lib.hid (fun W hr => wholeMk_any (!decide (p < 0)) u p.natAbs W hr)
  rw [show ((!decide (p < 0)) && decide (0 < p.natAbs)) = decide (-p < 0) by rw [Bool.eq_iff_iff]; simp; omega] at HW
  have HU := Lib.hid (fun (W : World) (hb : Below w.heap.size w W) => hu.below hb)
  obtain ⟨A, c, rfl, hc, hr⟩ := hu
  generalize decide (p < 0) = x at *
  generalize decide (-p < 0) = y at *
  have HS : Hid (St w ((w.alloc (.cells #[.bool x, .slice A (limbs p.natAbs).length c] 37)).alloc (.cells #[.bool false, .slice none 0 0] 37))
      [(w.heap.size + 1, 0, .bool false), (w.heap.size + 1, 1, .slice none 0 0), (w.heap.size, 0, .bool x), (w.heap.size, 1, .slice A (limbs p.natAbs).length c)] (w.heap.size + 1) 2) :=
    ⟨Cells.box2 (Cells.box2 (Cells.nil _) rfl _ _ _) (by simp) _ _ _, fun o _ => free_box (by simp) _ _ _, by simp, ((Below.refl _ _).alloc (Nat.le_refl _) _).alloc (by simp) _⟩
  have hne : w.heap.size + 1 ≠ w.heap.size := by omega
  clear hc hr
  go_enter Tryd.func34, Tryd.ntmps34
  go_wp2_with (go_at_call 62; go_must (refine (HW.out _ (HU.out _ HS.out.below)).mono ?_); rintro e w2 ⟨rfl, hb⟩; have HS2 := Lib.hid (HS.out.call hb); obtain ⟨d0, d1, -⟩ := HS2.out.cells; have f0 := HS2.out.free 0 (by omega); have f1 := HS2.out.free 1 (by omega); have hz := HS2.out.lt; clear hb)
  exact bodyPost_ret (v := .agg #[.bool y, .slice A (limbs p.natAbs).length c]) (by simp [results, Tryd.results34, go_sem, d0, d1, f0, f1, hz]) rfl ⟨rfl, (HS2.out.below.setCell (p := ⟨w.heap.size + 1, 0, none⟩) (Nat.le_succ _) _).setCell (p := ⟨w.heap.size + 1, 1, none⟩) (Nat.le_succ _) _⟩
end Go.Proofs.YthkmgjkajllemaaDoor.Spec

/- Frac.Add of the reference. -/
namespace Go.Proofs.YthkmgjkajllemaaDoor.Spec
open Go.RowKit Go.Proofs.YthkmgjkajllemaaDoorW.PrintWords Go.Proofs.YthkmgjkajllemaaDoor.Num Go.Proofs.YthkmgjkajllemaaDoor.Str Go.Proofs.YthkmgjkajllemaaDoor.Nats Go.Proofs.YthkmgjkajllemaaDoor.Val Go.Proofs.YthkmgjkajllemaaDoor.Arith Go.Proofs.YthkmgjkajllemaaDoor.NatOps Go.Proofs.YthkmgjkajllemaaDoor.Make
set_option linter.unusedVariables false
set_option linter.unusedSimpArgs false

set_option maxHeartbeats 4000000 in
set_option maxRecDepth 100000 in
/-- Frac.Add: p/d and q/f. -/
theorem fracAdd_any (p q : Int) (d f : Nat) (u v u' v' : Value) (w : World) (hu : IsNat w u p.natAbs) (hv : IsNat w v d) (hu' : IsNat w u' q.natAbs) (hv' : IsNat w v' f)
    (hp : (limbs p.natAbs).length < 1000) (hd : (limbs d).length < 1000) (hq : (limbs q.natAbs).length < 1000) (hf : (limbs f).length < 1000) :
    Calls Tryd.prog 35 #[.agg #[.bool (decide (p < 0)), u, v], .agg #[.bool (decide (q < 0)), u', v']] w fun e w' => ∃ r r2, e = .returned (.agg #[.bool (decide (p * f + q * d < 0)), r, r2]) ∧ IsNew w' w.heap.size r (p * f + q * d).natAbs ∧ IsNew w' w.heap.size r2 (d * f) ∧ Below w.heap.size w w' := by
  have hpf := LongDiv.len_mul p.natAbs f
  have hqd := LongDiv.len_mul q.natAbs d
  have e1 : (p * (f : Int)).natAbs = p.natAbs * f := by rw [Int.natAbs_mul]; rfl
  have e2 : (q * (d : Int)).natAbs = q.natAbs * d := by rw [Int.natAbs_mul]; rfl
  rw [← e1] at hpf
  rw [← e2] at hqd
  have HM1 := Lib.hid (fun W h1 h2 => wholeMul_int p f u v' W h1 h2 (by omega) (by omega))
  have HM2 := Lib.hid (fun W h1 h2 => wholeMul_int q d u' v W h1 h2 (by omega) (by omega))
  have HC := Lib.hid (fun r r' W h1 h2 => wholeAdd_int (p * f) (q * d) r r' W h1 h2 (by omega) (by omega))
  have HN := Lib.hid (fun W h1 h2 => natMul_any v v' d f W h1 h2 (by omega) (by omega))
  have HU := Lib.hid (fun (W : World) (hb : Below w.heap.size w W) => hu.below hb)
  have HV := Lib.hid (fun (W : World) (hb : Below w.heap.size w W) => hv.below hb)
  have HU' := Lib.hid (fun (W : World) (hb : Below w.heap.size w W) => hu'.below hb)
  have HV' := Lib.hid (fun (W : World) (hb : Below w.heap.size w W) => hv'.below hb)
  obtain ⟨A, c, rfl, hc, hr⟩ := hu
  obtain ⟨B, cb, rfl, hcb, hrb⟩ := hv
  obtain ⟨A', c', rfl, hc', hr'⟩ := hu'
  obtain ⟨B', cb', rfl, hcb', hrb'⟩ := hv'
  clear hc hr hcb hrb hc' hr' hcb' hrb' hp hd hq hf hpf hqd e1 e2
  generalize decide (p < 0) = x at HM1 ⊢
  generalize decide (q < 0) = y at HM2 ⊢
  generalize decide (p * (f : Int) < 0) = x2 at HM1 HC
  generalize decide (q * (d : Int) < 0) = y2 at HM2 HC
  generalize decide (p * (f : Int) + q * (d : Int) < 0) = z2 at HC ⊢
  generalize (p * (f : Int) + q * (d : Int)).natAbs = k at HC ⊢
  generalize (p * (f : Int)).natAbs = m at HM1 HC
  generalize (q * (d : Int)).natAbs = n at HM2 HC
  generalize d * f = den at HN ⊢
  generalize (limbs p.natAbs).length = lp at *
  generalize (limbs q.natAbs).length = lq at *
  generalize (limbs d).length = ld at *
  generalize (limbs f).length = lf at *
  have HS : Hid (St w (((w.alloc (.cells #[.bool x, .slice A lp c, .slice B ld cb] 45)).alloc (.cells #[.bool y, .slice A' lq c', .slice B' lf cb'] 45)).alloc (.cells #[.bool false, .slice none 0 0, .slice none 0 0] 45))
      [(w.heap.size + 1 + 1, 0, .bool false), (w.heap.size + 1 + 1, 1, .slice none 0 0), (w.heap.size + 1 + 1, 2, .slice none 0 0), (w.heap.size + 1, 0, .bool y), (w.heap.size + 1, 1, .slice A' lq c'), (w.heap.size + 1, 2, .slice B' lf cb'), (w.heap.size, 0, .bool x), (w.heap.size, 1, .slice A lp c), (w.heap.size, 2, .slice B ld cb)] (w.heap.size + 1 + 1) 3) :=
    ⟨Cells.box3 (Cells.box3 (Cells.box3 (Cells.nil _) rfl _ _ _ _) (by simp) _ _ _ _) (by simp) _ _ _ _, fun o _ => free_box (by simp) _ _ _, by simp, (((Below.refl _ _).alloc (Nat.le_refl _) _).alloc (by simp) _).alloc (by simp; omega) _⟩
  have hne1 : w.heap.size + 1 + 1 ≠ w.heap.size := by omega
  have hne2 : w.heap.size + 1 + 1 ≠ w.heap.size + 1 := by omega
  go_enter Tryd.func35, Tryd.ntmps35
  go_wp2
  obtain ⟨W, hW⟩ : ∃ W, ((w.alloc (.cells #[.bool x, .slice A lp c, .slice B ld cb] 45)).alloc (.cells #[.bool y, .slice A' lq c', .slice B' lf cb'] 45)).alloc (.cells #[.bool false, .slice none 0 0, .slice none 0 0] 45) = W := ⟨_, rfl⟩
  rw [hW] at HS ⊢
  clear hW
  have HS1 := Lib.hid (HS.out.call (below_drew (Below.refl _ _)))
  clear HS
  go_region_held3 (fun W' => W'.cell? ⟨w.heap.size + 1, 0, none⟩ = some (.bool y) ∧ W'.cell? ⟨w.heap.size + 1, 1, none⟩ = some (.slice A' lq c') ∧ W'.cell? ⟨w.heap.size + 1, 2, none⟩ = some (.slice B' lf cb') ∧ W'.cell? ⟨w.heap.size, 0, none⟩ = some (.bool x) ∧ W'.cell? ⟨w.heap.size, 1, none⟩ = some (.slice A lp c) ∧ W'.cell? ⟨w.heap.size, 2, none⟩ = some (.slice B ld cb))
    (first | exact (by have h := HS5.out.cells.2.2.2; exact ⟨h.1, h.2.1, h.2.2.1, h.2.2.2.1, h.2.2.2.2.1, h.2.2.2.2.2.1⟩) | exact (by have h := HS4.out.cells.2.2.2; exact ⟨h.1, h.2.1, h.2.2.1, h.2.2.2.1, h.2.2.2.2.1, h.2.2.2.2.2.1⟩) | exact (by have h := HS3.out.cells.2.2.2; exact ⟨h.1, h.2.1, h.2.2.1, h.2.2.2.1, h.2.2.2.2.1, h.2.2.2.2.2.1⟩) | exact (by have h := HS2.out.cells.2.2.2; exact ⟨h.1, h.2.1, h.2.2.1, h.2.2.2.1, h.2.2.2.2.1, h.2.2.2.2.2.1⟩) | exact (by have h := HS1.out.cells.2.2.2; exact ⟨h.1, h.2.1, h.2.2.1, h.2.2.2.1, h.2.2.2.2.1, h.2.2.2.2.2.1⟩) | go_keep)
    (first | (go_at_call 70; (with_reducible refine (HM1.out _ (HU.out _ HS1.out.below) (HV'.out _ HS1.out.below)).mono ?_); rintro e w2 ⟨r, rfl, hn, hb⟩; have HS2 := Lib.hid (HS1.out.call hb); have HG2 := Lib.hid hn; obtain ⟨A2, c2, rfl⟩ := hn.slice; clear hn hb) | (go_at_call 70; (with_reducible refine (HM2.out _ (HU'.out _ HS2.out.below) (HV.out _ HS2.out.below)).mono ?_); rintro e w3 ⟨r, rfl, hn, hb⟩; have HS3 := Lib.hid (HS2.out.call hb); have HG3 := Lib.hid (HG2.out.below hb); have HG3' := Lib.hid hn; obtain ⟨A3, c3, rfl⟩ := hn.slice; clear hn hb) | (go_at_call 31; (refine (HC.out _ _ _ HG3.out.isNat HG3'.out.isNat).mono ?_); rintro e w4 ⟨r, rfl, hn, hb⟩; have HS4 := Lib.hid (HS3.out.call hb); have HG4 := Lib.hid hn; obtain ⟨A4, c4, rfl⟩ := hn.slice; clear hn hb) | (go_at_call 56; (refine (HN.out _ (HV.out _ HS4.out.below) (HV'.out _ HS4.out.below)).mono ?_); rintro e w5 ⟨r, rfl, hn, hb⟩; have HS5 := Lib.hid (HS4.out.call hb); have HG5 := Lib.hid (HG4.out.below hb); have HG5' := Lib.hid hn; obtain ⟨A5, c5, rfl⟩ := hn.slice; obtain ⟨d0, d1, d2, b0, b1, b2, a0, a1, a2, -⟩ := HS5.out.cells; have f0 := HS5.out.free 0 (by omega); have f1 := HS5.out.free 1 (by omega); have f2 := HS5.out.free 2 (by omega); have hz := HS5.out.lt; clear hn hb))
  all_goals (go_wp2; exact bodyPost_ret (v := .agg #[.bool z2, .slice A4 (limbs k).length c4, .slice A5 (limbs den).length c5]) (by simp [results, Tryd.results35, go_sem, d0, d1, d2, f0, f1, f2, hz]) rfl ⟨_, _, rfl, (((HG5.out.set (by have := HS3.out.lt; exact this) _).set (by have := HS3.out.lt; exact this) _).set (by have := HS3.out.lt; exact this) _).lower HS3.out.below.size, (((HG5'.out.set (by have := HS4.out.lt; exact this) _).set (by have := HS4.out.lt; exact this) _).set (by have := HS4.out.lt; exact this) _).lower HS4.out.below.size, ((HS5.out.below.setCell (by show w.heap.size ≤ w.heap.size + 1 + 1; omega) _).setCell (by show w.heap.size ≤ w.heap.size + 1 + 1; omega) _).setCell (by show w.heap.size ≤ w.heap.size + 1 + 1; omega) _⟩)
end Go.Proofs.YthkmgjkajllemaaDoor.Spec

/- Decimal numbers of the reference as fractions. -/
namespace Go.Proofs.YthkmgjkajllemaaDoor.Spec
open Go.RowKit Go.Proofs.YthkmgjkajllemaaDoorW.PrintWords Go.Proofs.YthkmgjkajllemaaDoor.Num Go.Proofs.YthkmgjkajllemaaDoor.Str Go.Proofs.YthkmgjkajllemaaDoor.Nats Go.Proofs.YthkmgjkajllemaaDoor.Val Go.Proofs.YthkmgjkajllemaaDoor.Arith Go.Proofs.YthkmgjkajllemaaDoor.NatOps Go.Proofs.YthkmgjkajllemaaDoor.Make
set_option linter.unusedVariables false
set_option linter.unusedSimpArgs false

set_option maxHeartbeats 2000000 in
set_option maxRecDepth 100000 in
/-- Dec.Frac: z / 10^s, where places are behind the point. -/
theorem decFrac_pos (z : Int) (s b0 : Nat) (u : Value) (w : World) (hu : IsNew w b0 u z.natAbs) (hb0 : b0 ≤ w.heap.size) (hs : 0 < s) (hs1 : s < 1000) :
    Calls Tryd.prog 30 #[.agg #[.bool (decide (z < 0)), u, .int .i64 (-(s : Int))]] w fun e w' => ∃ u' v', e = .returned (.agg #[.bool (decide (z < 0)), u', v']) ∧ IsNew w' b0 u' z.natAbs ∧ IsNew w' b0 v' (10 ^ s) ∧ Below w.heap.size w w' := by
  have HP := Lib.hid (fun W => pow10_any s W (by omega))
  have HU := Lib.hid (fun (W : World) (hb : Below w.heap.size w W) => hu.below hb)
  have HB0 := Lib.hid hb0
  obtain ⟨A, c, rfl⟩ := hu.slice
  clear hu hb0
  generalize decide (z < 0) = x at *
  generalize z.natAbs = m at *
  have g0 : decide (0 ≤ -(s : Int)) = false := decide_eq_false (by omega)
  have hsp : 1 ≤ (s : Int) := by omega
  have hw : IntKind.i64.wrap (s : Int) = (s : Int) := IntWalk.i64_in _ (by omega)
  have hnn : -(-(s : Int)) = (s : Int) := by omega
  have HS : Hid (St w ((w.alloc (.cells #[.bool x, .slice A (limbs m).length c, .int .i64 (-(s : Int))] 40)).alloc (.cells #[.bool false, .slice none 0 0, .slice none 0 0] 45))
      [(w.heap.size + 1, 0, .bool false), (w.heap.size + 1, 1, .slice none 0 0), (w.heap.size + 1, 2, .slice none 0 0), (w.heap.size, 0, .bool x), (w.heap.size, 1, .slice A (limbs m).length c), (w.heap.size, 2, .int .i64 (-(s : Int)))] (w.heap.size + 1) 3) :=
    ⟨Cells.box3 (Cells.box3 (Cells.nil _) rfl _ _ _ _) (by simp) _ _ _ _, fun o _ => free_box (by simp) _ _ _, by simp, ((Below.refl _ _).alloc (Nat.le_refl _) _).alloc (by simp) _⟩
  have hne : w.heap.size + 1 ≠ w.heap.size := by omega
  clear hs
  go_enter Tryd.func30, Tryd.ntmps30
  go_wp2
  obtain ⟨W, hW⟩ : ∃ W, (w.alloc (.cells #[.bool x, .slice A (limbs m).length c, .int .i64 (-(s : Int))] 40)).alloc (.cells #[.bool false, .slice none 0 0, .slice none 0 0] 45) = W := ⟨_, rfl⟩
  rw [hW] at HS ⊢
  clear hW
  have HS1 := Lib.hid (HS.out.call (below_drew (Below.refl _ _)))
  clear HS
  go_region_held3 (fun W' => W'.cell? ⟨w.heap.size, 0, none⟩ = some (.bool x) ∧ W'.cell? ⟨w.heap.size, 1, none⟩ = some (.slice A (limbs m).length c) ∧ W'.cell? ⟨w.heap.size, 2, none⟩ = some (.int .i64 (-(s : Int))))
    (first | exact (by have h := HS2.out.cells.2.2.2; exact ⟨h.1, h.2.1, h.2.2.1⟩) | exact (by have h := HS1.out.cells.2.2.2; exact ⟨h.1, h.2.1, h.2.2.1⟩) | go_keep)
    (first | (go_at_call 57; (try rw [hnn]); (with_reducible refine (HP.out _).mono ?_); rintro e w2 ⟨r, rfl, hn, hb⟩; have HS2 := Lib.hid (HS1.out.call hb); have HG2 := Lib.hid hn; obtain ⟨A2, c2, rfl⟩ := hn.slice; obtain ⟨d0, d1, d2, b0', b1', b2', -⟩ := HS2.out.cells; have f0 := HS2.out.free 0 (by omega); have f1 := HS2.out.free 1 (by omega); have f2 := HS2.out.free 2 (by omega); have hz := HS2.out.lt; clear hn hb))
  all_goals (go_wp2; have HF : Hid (Below w.heap.size w _) := ((HS2.out.below.setCell (p := ⟨w.heap.size + 1, 0, none⟩) (Nat.le_succ _) (.bool x)).setCell (p := ⟨w.heap.size + 1, 1, none⟩) (Nat.le_succ _) (.slice A (limbs m).length c)).setCell (p := ⟨w.heap.size + 1, 2, none⟩) (Nat.le_succ _) (.slice A2 (limbs (10 ^ s)).length c2); exact bodyPost_ret (v := .agg #[.bool x, .slice A (limbs m).length c, .slice A2 (limbs (10 ^ s)).length c2]) (by simp [results, Tryd.results30, go_sem, d0, d1, d2, f0, f1, f2, hz]) rfl ⟨_, _, rfl, HU.out _ HF.out, (((HG2.out.set (by have := HS1.out.lt; exact this) _).set (by have := HS1.out.lt; exact this) _).set (by have := HS1.out.lt; exact this) _).lower (Nat.le_trans HB0.out HS1.out.below.size), HF.out⟩)

set_option maxHeartbeats 2000000 in
set_option maxRecDepth 100000 in
/-- Dec.Frac of a whole number. -/
theorem decFrac_zero (z : Int) (b0 : Nat) (u : Value) (w : World) (hu : IsNew w b0 u z.natAbs) (hb0 : b0 ≤ w.heap.size) (hl : (limbs z.natAbs).length < 1000) :
    Calls Tryd.prog 30 #[.agg #[.bool (decide (z < 0)), u, .int .i64 0]] w fun e w' => ∃ u' v', e = .returned (.agg #[.bool (decide (z < 0)), u', v']) ∧ IsNew w' b0 u' z.natAbs ∧ IsNew w' b0 v' 1 ∧ Below w.heap.size w w' := by
  have h10 : (limbs (10 ^ 0)).length < 1000 := by rw [show 10 ^ 0 = 1 from rfl, limbs_one 1 (by omega) (by omega)]; simp
  have HP := Lib.hid (fun W => pow10_any 0 W (by omega))
  have HM := Lib.hid (fun v W h1 h2 => natMul_any u v z.natAbs (10 ^ 0) W h1 h2 (by omega) (by omega))
  have HW := Lib.hid (fun r W hr => wholeMk_any (decide (z < 0)) r z.natAbs W hr)
  have HO := Lib.hid (fun W => one_any W)
  rw [show z.natAbs * 10 ^ 0 = z.natAbs by simp] at HM
  rw [show (decide (z < 0) && decide (0 < z.natAbs)) = decide (z < 0) by by_cases h : z < 0 <;> simp [h]; omega] at HW
  have HU := Lib.hid (fun (W : World) (hb : Below w.heap.size w W) => (hu.below hb).isNat)
  have HB0 := Lib.hid hb0
  obtain ⟨A, c, rfl⟩ := hu.slice
  clear hu hb0 h10 hl
  generalize decide (z < 0) = x at *
  generalize z.natAbs = m at *
  have HS : Hid (St w ((w.alloc (.cells #[.bool x, .slice A (limbs m).length c, .int .i64 0] 40)).alloc (.cells #[.bool false, .slice none 0 0, .slice none 0 0] 45))
      [(w.heap.size + 1, 0, .bool false), (w.heap.size + 1, 1, .slice none 0 0), (w.heap.size + 1, 2, .slice none 0 0), (w.heap.size, 0, .bool x), (w.heap.size, 1, .slice A (limbs m).length c), (w.heap.size, 2, .int .i64 0)] (w.heap.size + 1) 3) :=
    ⟨Cells.box3 (Cells.box3 (Cells.nil _) rfl _ _ _ _) (by simp) _ _ _ _, fun o _ => free_box (by simp) _ _ _, by simp, ((Below.refl _ _).alloc (Nat.le_refl _) _).alloc (by simp) _⟩
  have hne : w.heap.size + 1 ≠ w.heap.size := by omega
  go_enter Tryd.func30, Tryd.ntmps30
  go_wp2
  obtain ⟨W, hW⟩ : ∃ W, (w.alloc (.cells #[.bool x, .slice A (limbs m).length c, .int .i64 0] 40)).alloc (.cells #[.bool false, .slice none 0 0, .slice none 0 0] 45) = W := ⟨_, rfl⟩
  rw [hW] at HS ⊢
  clear hW
  have HS1 := Lib.hid (HS.out.call (below_drew (Below.refl _ _)))
  clear HS
  go_region_held3 (fun W' => W'.cell? ⟨w.heap.size, 0, none⟩ = some (.bool x) ∧ W'.cell? ⟨w.heap.size, 1, none⟩ = some (.slice A (limbs m).length c) ∧ W'.cell? ⟨w.heap.size, 2, none⟩ = some (.int .i64 0))
    (first | exact (by have h := HS5.out.cells.2.2.2; exact ⟨h.1, h.2.1, h.2.2.1⟩) | exact (by have h := HS4.out.cells.2.2.2; exact ⟨h.1, h.2.1, h.2.2.1⟩) | exact (by have h := HS3.out.cells.2.2.2; exact ⟨h.1, h.2.1, h.2.2.1⟩) | exact (by have h := HS2.out.cells.2.2.2; exact ⟨h.1, h.2.1, h.2.2.1⟩) | exact (by have h := HS1.out.cells.2.2.2; exact ⟨h.1, h.2.1, h.2.2.1⟩) | go_keep)
    (first | (go_at_call 57; (refine (HP.out _).mono ?_); rintro e w2 ⟨r, rfl, hn, hb⟩; have HS2 := Lib.hid (HS1.out.call hb); have HG2 := Lib.hid hn.isNat; obtain ⟨A2, c2, rfl⟩ := hn.slice; clear hn hb) | (go_at_call 56; (refine (HM.out _ _ (HU.out _ HS2.out.below) HG2.out).mono ?_); rintro e w3 ⟨r, rfl, hn, hb⟩; have HS3 := Lib.hid (HS2.out.call hb); have HG3 := Lib.hid hn; obtain ⟨A3, c3, rfl⟩ := hn.slice; clear hn hb) | (go_at_call 62; (refine (HW.out _ _ HG3.out.isNat).mono ?_); rintro e w4 ⟨rfl, hb⟩; have HS4 := Lib.hid (HS3.out.call hb); have HG4 := Lib.hid (HG3.out.below hb); clear hb) | (go_at_call 55; (refine (HO.out _).mono ?_); rintro e w5 ⟨r, rfl, hn, hb⟩; have HS5 := Lib.hid (HS4.out.call hb); have HG5 := Lib.hid (HG4.out.below hb); have HG5' := Lib.hid hn; obtain ⟨A5, c5, rfl⟩ := hn.slice; obtain ⟨d0, d1, d2, b0', b1', b2', -⟩ := HS5.out.cells; have f0 := HS5.out.free 0 (by omega); have f1 := HS5.out.free 1 (by omega); have f2 := HS5.out.free 2 (by omega); have hz := HS5.out.lt; clear hn hb))
  all_goals (go_wp2; exact bodyPost_ret (v := .agg #[.bool x, .slice A3 (limbs m).length c3, .slice A5 (limbs 1).length c5]) (by simp [results, Tryd.results30, go_sem, d0, d1, d2, f0, f1, f2, hz]) rfl ⟨_, _, rfl, (((HG5.out.set (by exact HS2.out.lt) _).set (by exact HS2.out.lt) _).set (by exact HS2.out.lt) _).lower (Nat.le_trans HB0.out HS2.out.below.size), (((HG5'.out.set (by exact HS4.out.lt) _).set (by exact HS4.out.lt) _).set (by exact HS4.out.lt) _).lower (Nat.le_trans HB0.out HS4.out.below.size), ((HS5.out.below.setCell (p := ⟨w.heap.size + 1, 0, none⟩) (Nat.le_succ _) _).setCell (p := ⟨w.heap.size + 1, 1, none⟩) (Nat.le_succ _) _).setCell (p := ⟨w.heap.size + 1, 2, none⟩) (Nat.le_succ _) _⟩)

/-- Dec.Frac: z / 10^s. -/
theorem decFrac_any (z : Int) (s b0 : Nat) (u : Value) (w : World) (hu : IsNew w b0 u z.natAbs) (hb0 : b0 ≤ w.heap.size) (hs : s < 1000) (hl : (limbs z.natAbs).length < 1000) :
    Calls Tryd.prog 30 #[.agg #[.bool (decide (z < 0)), u, .int .i64 (-(s : Int))]] w fun e w' => ∃ u' v', e = .returned (.agg #[.bool (decide (z < 0)), u', v']) ∧ IsNew w' b0 u' z.natAbs ∧ IsNew w' b0 v' (10 ^ s) ∧ Below w.heap.size w w' := by
  rcases Nat.eq_zero_or_pos s with h | h
  · subst h
    exact decFrac_zero z b0 u w hu hb0 hl
  · exact decFrac_pos z s b0 u w hu hb0 h hs
end Go.Proofs.YthkmgjkajllemaaDoor.Spec

/- Decimals of govalues as numbers of the reference. -/
namespace Go.Proofs.YthkmgjkajllemaaDoor.Spec
open Go.RowKit Go.Proofs.YthkmgjkajllemaaDoorW.PrintWords Go.Proofs.YthkmgjkajllemaaDoor.Num Go.Proofs.YthkmgjkajllemaaDoor.Str Go.Proofs.YthkmgjkajllemaaDoor.Nats Go.Proofs.YthkmgjkajllemaaDoor.Val Go.Proofs.YthkmgjkajllemaaDoor.Arith Go.Proofs.YthkmgjkajllemaaDoor.NatOps Go.Proofs.YthkmgjkajllemaaDoor.Make
set_option linter.unusedVariables false
set_option linter.unusedSimpArgs false

/-- The number of a sign and an amount. -/
def fz (neg : Bool) (n : Nat) : Int := if neg then -(n : Int) else n
theorem fz_neg (neg : Bool) (n : Nat) : decide (fz neg n < 0) = (neg && decide (0 < n)) := by
  unfold fz
  cases neg
  · simp
  · rw [if_pos rfl]
    by_cases h : 0 < n
    · simp [h]
    · have : n = 0 := by omega
      subst this
      simp
theorem fz_abs (neg : Bool) (n : Nat) : (fz neg n).natAbs = n := by
  unfold fz
  cases neg <;> simp

set_option maxHeartbeats 2000000 in
set_option maxRecDepth 100000 in
/-- FixDec. -/
theorem fixDec_any (neg : Bool) (n s : Nat) (w : World) (hn : n < 18446744073709551616) (hs : s ≤ 1000) :
    Calls Tryd.prog 65 #[.agg #[.bool neg, .int .u64 n, .int .i64 s]] w fun e w' => ∃ u, e = .returned (.agg #[.bool (decide (fz neg n < 0)), u, .int .i64 (-(s : Int))]) ∧ IsNew w' w.heap.size u n ∧ Below w.heap.size w w' := by
  have HN := Lib.hid (fun W => natFrom_new n W hn)
  have HW := Lib.hid (fun r W hr => wholeMk_any neg r n W hr)
  rw [fz_neg]
  generalize (neg && decide (0 < n)) = x at HW ⊢
  have hw : IntKind.i64.wrap (-(s : Int)) = -(s : Int) := IntWalk.i64_in _ (by omega)
  have HS : Hid (St w ((w.alloc (.cells #[.bool neg, .int .u64 n, .int .i64 s] 32)).alloc (.cells #[.bool false, .slice none 0 0, .int .i64 0] 40))
      [(w.heap.size + 1, 0, .bool false), (w.heap.size + 1, 1, .slice none 0 0), (w.heap.size + 1, 2, .int .i64 0), (w.heap.size, 0, .bool neg), (w.heap.size, 1, .int .u64 n), (w.heap.size, 2, .int .i64 s)] (w.heap.size + 1) 3) :=
    ⟨Cells.box3 (Cells.box3 (Cells.nil _) rfl _ _ _ _) (by simp) _ _ _ _, fun o _ => free_box (by simp) _ _ _, by simp, ((Below.refl _ _).alloc (Nat.le_refl _) _).alloc (by simp) _⟩
  have hne : w.heap.size + 1 ≠ w.heap.size := by omega
  clear hn
  go_enter Tryd.func65, Tryd.ntmps65
  go_wp2
  obtain ⟨W, hW⟩ : ∃ W, (w.alloc (.cells #[.bool neg, .int .u64 n, .int .i64 s] 32)).alloc (.cells #[.bool false, .slice none 0 0, .int .i64 0] 40) = W := ⟨_, rfl⟩
  rw [hW] at HS ⊢
  clear hW
  have HS1 := Lib.hid (HS.out.call (below_drew (Below.refl _ _)))
  clear HS
  go_region_held3 (fun W' => W'.cell? ⟨w.heap.size, 0, none⟩ = some (.bool neg) ∧ W'.cell? ⟨w.heap.size, 1, none⟩ = some (.int .u64 n) ∧ W'.cell? ⟨w.heap.size, 2, none⟩ = some (.int .i64 s))
    (first | exact (by have h := HS3.out.cells.2.2.2; exact ⟨h.1, h.2.1, h.2.2.1⟩) | exact (by have h := HS2.out.cells.2.2.2; exact ⟨h.1, h.2.1, h.2.2.1⟩) | exact (by have h := HS1.out.cells.2.2.2; exact ⟨h.1, h.2.1, h.2.2.1⟩) | go_keep)
    (first | (go_at_call 11; (refine (HN.out _).mono ?_); rintro e w2 ⟨r, rfl, hn, hb⟩; have HS2 := Lib.hid (HS1.out.call hb); have HG2 := Lib.hid hn; obtain ⟨A2, c2, rfl⟩ := hn.slice; clear hn hb) | (go_at_call 62; (refine (HW.out _ _ HG2.out.isNat).mono ?_); rintro e w3 ⟨rfl, hb⟩; have HS3 := Lib.hid (HS2.out.call hb); have HG3 := Lib.hid (HG2.out.below hb); obtain ⟨d0, d1, d2, b0', b1', b2', -⟩ := HS3.out.cells; have f0 := HS3.out.free 0 (by omega); have f1 := HS3.out.free 1 (by omega); have f2 := HS3.out.free 2 (by omega); have hz := HS3.out.lt; clear hb))
  all_goals (go_wp2; exact bodyPost_ret (v := .agg #[.bool x, .slice A2 (limbs n).length c2, .int .i64 (-(s : Int))]) (by simp [results, Tryd.results65, go_sem, d0, d1, d2, f0, f1, f2, hz]) rfl ⟨_, rfl, (((HG3.out.set (by exact HS1.out.lt) _).set (by exact HS1.out.lt) _).set (by exact HS1.out.lt) _).lower HS1.out.below.size, ((HS3.out.below.setCell (p := ⟨w.heap.size + 1, 0, none⟩) (Nat.le_succ _) _).setCell (p := ⟨w.heap.size + 1, 1, none⟩) (Nat.le_succ _) _).setCell (p := ⟨w.heap.size + 1, 2, none⟩) (Nat.le_succ _) _⟩)

set_option maxHeartbeats 2000000 in
set_option maxRecDepth 100000 in
/-- FixNum. -/
theorem fixNum_any (neg : Bool) (n s : Nat) (w : World) (hn : n < 18446744073709551616) (hs : s < 1000) :
    Calls Tryd.prog 66 #[.agg #[.bool neg, .int .u64 n, .int .i64 s]] w fun e w' => ∃ u v, e = .returned (.agg #[.bool (decide (fz neg n < 0)), u, v]) ∧ IsNew w' w.heap.size u n ∧ IsNew w' w.heap.size v (10 ^ s) ∧ Below w.heap.size w w' := by
  have hl := limbs_length 3 n (by omega)
  have HD := Lib.hid (fun W => fixDec_any neg n s W hn (by omega))
  have HF := Lib.hid (fun u b0 W (h1 : IsNew W b0 u n) h2 => decFrac_any (fz neg n) s b0 u W (by rw [fz_abs]; exact h1) h2 hs (by rw [fz_abs]; omega))
  rw [fz_abs] at HF
  generalize decide (fz neg n < 0) = x at HD HF ⊢
  clear hn hl hs
  have HS : Hid (St w ((w.alloc (.cells #[.bool neg, .int .u64 n, .int .i64 s] 32)).alloc (.cells #[.bool false, .slice none 0 0, .slice none 0 0] 45))
      [(w.heap.size + 1, 0, .bool false), (w.heap.size + 1, 1, .slice none 0 0), (w.heap.size + 1, 2, .slice none 0 0), (w.heap.size, 0, .bool neg), (w.heap.size, 1, .int .u64 n), (w.heap.size, 2, .int .i64 s)] (w.heap.size + 1) 3) :=
    ⟨Cells.box3 (Cells.box3 (Cells.nil _) rfl _ _ _ _) (by simp) _ _ _ _, fun o _ => free_box (by simp) _ _ _, by simp, ((Below.refl _ _).alloc (Nat.le_refl _) _).alloc (by simp) _⟩
  go_enter Tryd.func66, Tryd.ntmps66
  go_wp2_with (first | (go_at_call 65; go_must (refine (HD.out _).mono ?_); rintro e w2 ⟨r, rfl, hn, hb⟩; have HS2 := Lib.hid (HS.out.call hb); have HL2 := Lib.hid hb.size; have HG2 := Lib.hid hn; obtain ⟨A2, c2, rfl⟩ := hn.slice; clear hn hb) | (go_at_call 30; go_must (refine (HF.out _ _ _ HG2.out HL2.out).mono ?_); rintro e w3 ⟨u, v, rfl, hn, hn', hb⟩; have HS3 := Lib.hid (HS2.out.call hb); have HG3 := Lib.hid hn; have HG3' := Lib.hid hn'; obtain ⟨A3, c3, rfl⟩ := hn.slice; obtain ⟨A4, c4, rfl⟩ := hn'.slice; obtain ⟨d0, d1, d2, b0', b1', b2', -⟩ := HS3.out.cells; have f0 := HS3.out.free 0 (by omega); have f1 := HS3.out.free 1 (by omega); have f2 := HS3.out.free 2 (by omega); have hz := HS3.out.lt; clear hn hn' hb))
  exact bodyPost_ret (v := .agg #[.bool x, .slice A3 (limbs n).length c3, .slice A4 (limbs (10 ^ s)).length c4]) (by simp [results, Tryd.results66, go_sem, d0, d1, d2, f0, f1, f2, hz]) rfl ⟨_, _, rfl, (((HG3.out.set (by exact HS.out.lt) _).set (by exact HS.out.lt) _).set (by exact HS.out.lt) _).lower HS.out.below.size, (((HG3'.out.set (by exact HS.out.lt) _).set (by exact HS.out.lt) _).set (by exact HS.out.lt) _).lower HS.out.below.size, ((HS3.out.below.setCell (p := ⟨w.heap.size + 1, 0, none⟩) (Nat.le_succ _) _).setCell (p := ⟨w.heap.size + 1, 1, none⟩) (Nat.le_succ _) _).setCell (p := ⟨w.heap.size + 1, 2, none⟩) (Nat.le_succ _) _⟩
end Go.Proofs.YthkmgjkajllemaaDoor.Spec

/- The functions of govalues over whole numbers of at most 19 digits compute what they should, where the table of powers of ten lies in memory. -/
namespace Go.Proofs.YthkmgjkajllemaaDoor.Fint
open Go.RowKit

/-- A power of ten, closed to the walk. -/
def p10 (i : Nat) : Int := (10 : Int) ^ i
/-- How many digits a number has; 0 has none. -/
def dg : Nat → Nat
  | 0 => 0
  | n + 1 => dg ((n + 1) / 10) + 1
decreasing_by omega

theorem p10_pos (i : Nat) : 0 < p10 i := by unfold p10; exact Int.pow_pos (by decide)
theorem p10_succ (i : Nat) : p10 (i + 1) = 10 * p10 i := by unfold p10; rw [Int.pow_succ]; omega

theorem dg_le (n : Nat) : ∀ i : Nat, dg n ≤ i ↔ (n : Int) < p10 i := by
  induction n using Nat.strongRecOn with
  | ind n ih =>
    intro i
    match n with
    | 0 => simp [dg]; exact p10_pos i
    | n + 1 =>
      rw [dg]
      match i with
      | 0 => simp [p10]; omega
      | i + 1 =>
        have h := ih ((n + 1) / 10) (by omega) i
        rw [p10_succ]
        constructor
        · intro hd
          have := h.1 (by omega)
          omega
        · intro hd
          have := h.2 (by omega)
          omega

/-- The table of powers of ten lies in memory. -/
def PowAt (w : World) : Prop := ∀ i : Nat, i < 20 → w.cell? ⟨0, i, none⟩ = some (.int .u64 (p10 i))

set_option maxHeartbeats 400000 in
theorem prec_any (x : Nat) (w : World) (hp : PowAt w) (hx : (x : Int) < p10 20) :
    Calls Tryd.prog 77 #[.int .u64 x] w fun e w' => e = .returned (.int .i64 (dg x)) ∧ w = w' := by
  have hd := (dg_le x 20).2 hx
  go_enter Tryd.func77, Tryd.ntmps77
  go_wp2
  go_loop [3, 4] (fun lo hi => ∃ l h : Nat, l ≤ dg x ∧ dg x ≤ h ∧ h ≤ 20 ∧ lo = .int .i64 l ∧ hi = .int .i64 h)
    (fun lo hi => (intOf hi).toNat - (intOf lo).toNat)
  case atStart => exact ⟨0, 20, by omega, hd, by omega, rfl, rfl⟩
  case round =>
    obtain ⟨l, h, h1, h2, h3, rfl, rfl⟩ := hrel
    by_cases hlt : l < h
    · have hc := hp ((l + h) / 2) (by omega)
      have hm := dg_le x ((l + h) / 2)
      by_cases hq : (x : Int) < p10 ((l + h) / 2)
      · have hm' := hm.2 hq
        clear hm
        go_wp2
        go_round
        case rel => exact ⟨l, (l + h) / 2, by omega, by omega, by omega, rfl, by go_num⟩
        case measure => simp only [intOf]; omega
      · have hm' : ¬ dg x ≤ (l + h) / 2 := fun hh => hq (hm.1 hh)
        clear hm
        go_wp2
        go_round
        case rel => exact ⟨(l + h) / 2 + 1, h, by omega, by omega, by omega, by go_num, rfl⟩
        case measure => simp only [intOf]; omega
    · obtain rfl : l = dg x := by omega
      go_wp2
      go_ret
      exact ⟨rfl, rfl⟩

/-- How many zeros a number has at its end; 0 has none. -/
def tz (n : Nat) : Nat := if n = 0 then 0 else if n % 10 = 0 then tz (n / 10) + 1 else 0
termination_by n
decreasing_by omega
theorem tz_iff (n : Nat) : 0 < n → ∀ i, n % 10 ^ i = 0 ↔ i ≤ tz n := by
  induction n using Nat.strongRecOn with
  | ind n ih =>
    intro hn i
    rw [tz, if_neg (by omega)]
    cases i with
    | zero => simp [Nat.mod_one]
    | succ i =>
      have hd : n % 10 ^ (i + 1) = n % 10 + 10 * (n / 10 % 10 ^ i) := by rw [Nat.pow_succ, Nat.mul_comm, Nat.mod_mul]
      by_cases h : n % 10 = 0
      · rw [if_pos h, hd, h]
        have := ih (n / 10) (by omega) (by omega) i
        constructor
        · intro he
          have := this.1 (by omega)
          omega
        · intro he
          have := this.2 (by omega)
          omega
      · rw [if_neg h, hd]
        constructor
        · intro he; omega
        · intro he; omega
theorem tz_lt (n : Nat) (hn : 0 < n) : tz n < dg n := by
  apply Decidable.byContradiction
  intro hc
  have h1 := (tz_iff n hn (dg n)).2 (by omega)
  have h2 := (dg_le n (dg n)).1 (Nat.le_refl _)
  have h3 : n < 10 ^ dg n := by unfold p10 at h2; exact_mod_cast h2
  rw [Nat.mod_eq_of_lt h3] at h1
  omega
theorem tz_digit (n z : Nat) (hn : 0 < n) : (z < tz n → n / 10 ^ z % 10 = 0) ∧ (z = tz n → n / 10 ^ z % 10 ≠ 0) := by
  have hd : n % 10 ^ (z + 1) = n % 10 ^ z + 10 ^ z * (n / 10 ^ z % 10) := by rw [Nat.pow_succ, Nat.mod_mul]
  have hp : 0 < 10 ^ z := Nat.pow_pos (by decide)
  constructor
  · intro h
    have := (tz_iff n hn (z + 1)).2 (by omega)
    rw [hd] at this
    have h2 : 10 ^ z * (n / 10 ^ z % 10) = 0 := by omega
    rcases Nat.mul_eq_zero.1 h2 with h3 | h3
    · omega
    · exact h3
  · intro h he
    have h0 := (tz_iff n hn z).2 (by omega)
    rw [he, h0] at hd
    have := (tz_iff n hn (z + 1)).1 (by omega)
    omega
theorem dg_decs (n : Nat) : (Num.decs n).length = dg n := by
  induction n using Nat.strongRecOn with
  | ind n ih =>
    match n with
    | 0 => rw [Num.decs_zero, dg]; rfl
    | n + 1 =>
      rw [Num.decs_pos (by omega), dg, List.length_cons, ih _ (by omega)]

set_option maxHeartbeats 400000 in
theorem ntz_any (x : Nat) (w : World) (hp : PowAt w) (hx : (x : Int) < p10 20) :
    Calls Tryd.prog 78 #[.int .u64 x] w fun e w' => e = .returned (.int .i64 (tz x)) ∧ w = w' := by
  have hd := (dg_le x 20).2 hx
  have hprec := Lib.hid (prec_any x w hp hx)
  by_cases h0 : x = 0
  · subst h0
    have e0 : dg 0 = 0 := by rw [dg]
    rw [e0] at hprec
    clear hx hd e0
    go_enter Tryd.func78, Tryd.ntmps78
    go_wp2_with (go_at_call 77; refine (hprec.out).mono ?_; rintro e w' ⟨rfl, rfl⟩)
    refine wp_loop_rounds 1 ?_
    rw [rounds_succ]
    go_wp2
    go_ret
    exact ⟨by unfold tz; rfl, rfl⟩
  · have hxp : 0 < x := by omega
    have ht := tz_lt x hxp
    have hxp2 : (0 : Int) < x := by omega
    go_enter Tryd.func78, Tryd.ntmps78
    go_wp2_with (go_at_call 77; refine (hprec.out).mono ?_; rintro e w' ⟨rfl, rfl⟩)
    go_loop [3, 4] (fun lo hi => ∃ l h : Nat, 1 ≤ l ∧ l ≤ tz x + 1 ∧ tz x + 1 ≤ h ∧ h ≤ 20 ∧ lo = .int .i64 l ∧ hi = .int .i64 h)
      (fun lo hi => (intOf hi).toNat - (intOf lo).toNat)
    case atStart => exact ⟨1, dg x, by omega, by omega, by omega, hd, rfl, rfl⟩
    case round =>
      obtain ⟨l, h, h0, h1, h2, h3, rfl, rfl⟩ := hrel
      by_cases hlt : l < h
      · have hc := hp ((l + h) / 2) (by omega)
        have hm := tz_iff x hxp ((l + h) / 2)
        have hpos := p10_pos ((l + h) / 2)
        by_cases hq : (l + h) / 2 ≤ tz x
        · have he : ((x : Int) % p10 ((l + h) / 2) == 0) = true := by
            have := hm.2 hq
            rw [beq_iff_eq]
            unfold p10
            exact_mod_cast this
          clear hm
          go_wp2
          go_round
          case rel => exact ⟨(l + h) / 2 + 1, h, by omega, by omega, by omega, by omega, by go_num, rfl⟩
          case measure => simp only [intOf]; omega
        · have he : ((x : Int) % p10 ((l + h) / 2) == 0) = false := by
            have : ¬ x % 10 ^ ((l + h) / 2) = 0 := fun hh => hq (hm.1 hh)
            rw [beq_eq_false_iff_ne]
            unfold p10
            intro hh
            exact this (by exact_mod_cast hh)
          clear hm
          go_wp2
          go_round
          case rel => exact ⟨l, (l + h) / 2, by omega, by omega, by omega, by omega, rfl, by go_num⟩
          case measure => simp only [intOf]; omega
      · have hl := Lib.hid (show ((l : Int) - 1) = (tz x : Nat) by omega)
        have hl21 : l ≤ 21 := by omega
        clear h1 h2 ht hxp2 hd hprec hx
        go_wp2
        go_ret
        exact ⟨by rw [← hl.out]; rfl, rfl⟩

theorem hasPrec_any (x p : Nat) (w : World) (hp : PowAt w) (h1 : 1 ≤ p) (h2 : p ≤ 20) :
    Calls Tryd.prog 79 #[.int .u64 x, .int .i64 p] w fun e w' => e = .returned (.bool (decide (p10 (p - 1) ≤ (x : Int)))) ∧ w = w' := by
  obtain ⟨q, rfl⟩ : ∃ q, p = q + 1 := ⟨p - 1, by omega⟩
  have hc := hp q (by omega)
  have hv : (Value.int .i64 ((q + 1 : Nat) : Int)) = Value.int .i64 ((q : Int) + 1) := by rw [Int.natCast_add]; rfl
  rw [hv, Nat.add_sub_cancel]
  clear hv h1
  go_enter Tryd.func79, Tryd.ntmps79
  go_wp2
  go_ret
  exact ⟨rfl, rfl⟩

set_option maxHeartbeats 400000 in
theorem fintPrec_any (x : Nat) (w : World) (hp : PowAt w) (hx : x ≤ 9999999999999999999) :
    Calls Tryd.prog 14 #[.int .u64 x] w fun e w' => e = .returned (.int .i64 (dg x)) ∧ w = w' := by
  have h1 := Lib.hid (prec_any x w hp (by unfold p10; omega))
  go_enter Tryd.func14, Tryd.ntmps14
  go_wp2_with (first | (go_at_call 77; refine (h1.out).mono ?_; rintro e w' ⟨rfl, rfl⟩) | go_in)
  go_ret
  exact ⟨rfl, rfl⟩
end Go.Proofs.YthkmgjkajllemaaDoor.Fint
