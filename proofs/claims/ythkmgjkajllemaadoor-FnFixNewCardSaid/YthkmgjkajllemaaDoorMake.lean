/- Decimals of govalues are made of parts as they should be, and told back as parts. -/
import Derived.Test.YthkmgjkajllemaaDoorRows
import Derived.WalkKit
import Derived.Below
import Derived.RegionTactic
import Derived.WideLaws
import Derived.WalkSpells
import Derived.Outline
import Derived.Test.YthkmgjkajllemaaDoorPfixx
import Derived.Lib.Hide
namespace Go.Proofs.YthkmgjkajllemaaDoor.Make
open Go.RowKit
set_option linter.unusedVariables false
set_option linter.unusedSimpArgs false

/-- The two package-level errors that are handed back are none that is nil. -/
structure ErrAt (w : World) : Prop where
  range : ∃ t v, w.cell? ⟨2, 0, none⟩ = some (.iface t v)
  over : ∃ t v, w.cell? ⟨3, 0, none⟩ = some (.iface t v)
  low : 3 < w.heap.size
theorem ErrAt.below {w w' : World} (h : ErrAt w) (hb : Below w.heap.size w w') : ErrAt w' := by
  obtain ⟨⟨t, v, h1⟩, ⟨t2, v2, h2⟩, h3⟩ := h
  exact ⟨⟨t, v, (hb.cell (p := ⟨2, 0, none⟩) (by show 2 < _; omega)).trans h1⟩, ⟨t2, v2, (hb.cell (p := ⟨3, 0, none⟩) h3).trans h2⟩, Nat.lt_of_lt_of_le h3 hb.size⟩

theorem below_one {w w1 : World} (o : Obj) (h : Below (w.alloc o).heap.size (w.alloc o) w1) : Below w.heap.size w w1 :=
  ((Below.refl _ _).alloc (Nat.le_refl _) o).trans (h.mono (by simp))
theorem below_at {w w1 : World} (h : Below w.heap.size w w1) (o : Obj) : Below w.heap.size w (w1.alloc o) := h.alloc h.size o
theorem below_by {w w1 w2 : World} (h : Below w.heap.size w w1) (k : Below w1.heap.size w1 w2) : Below w.heap.size w w2 := h.trans (k.mono h.size)

theorem newUnsafe_any (neg : Bool) (c s : Nat) (w : World) (hs : s ≤ 19) :
    Calls Tryd.prog 85 #[.bool neg, .int .u64 c, .int .i64 s] w fun e w' => e = .returned (.agg #[.bool (neg && decide (0 < c)), .int .i8 s, .int .u64 c]) ∧ Below w.heap.size w w' := by
  by_cases hc : c = 0
  · subst hc
    have hv : (.int .u64 ((0 : Nat) : Int) : Value) = .int .u64 0 := rfl
    rw [hv]
    have e0 : (neg && decide (0 < 0)) = false := by simp
    rw [e0]
    clear hv e0
    go_enter Tryd.func85, Tryd.ntmps85
    go_wp2
    exact bodyPost_ret (v := .agg #[.bool false, .int .i8 s, .int .u64 0]) (by simp [results, Tryd.results85, go_sem]) rfl ⟨rfl, (Below.refl _ _).alloc (Nat.le_refl _) _⟩
  · have h0 : ((c : Int) == 0) = false := beq_eq_false_iff_ne.2 (by omega)
    have e0 : (neg && decide (0 < c)) = neg := by simp [show 0 < c by omega]
    rw [e0]
    clear e0 hc
    go_enter Tryd.func85, Tryd.ntmps85
    go_wp2
    exact bodyPost_ret (v := .agg #[.bool neg, .int .i8 s, .int .u64 c]) (by simp [results, Tryd.results85, go_sem]) rfl ⟨rfl, (Below.refl _ _).alloc (Nat.le_refl _) _⟩

/-- A block of three cells that may be written. -/
structure C3 (w : World) (g : Nat) (a b c : Value) : Prop where
  c0 : w.cell? ⟨g, 0, none⟩ = some a
  c1 : w.cell? ⟨g, 1, none⟩ = some b
  c2 : w.cell? ⟨g, 2, none⟩ = some c
  f0 : w.frozen? ⟨g, 0, none⟩ = false
  f1 : w.frozen? ⟨g, 1, none⟩ = false
  f2 : w.frozen? ⟨g, 2, none⟩ = false
  lt : g < w.heap.size
theorem C3.below {w w1 : World} {g : Nat} {a b c : Value} (h : C3 w g a b c) (hb : Below w.heap.size w w1) : C3 w1 g a b c :=
  ⟨(hb.cell h.lt).trans h.c0, (hb.cell h.lt).trans h.c1, (hb.cell h.lt).trans h.c2, (hb.frozen h.lt).trans h.f0, (hb.frozen h.lt).trans h.f1, (hb.frozen h.lt).trans h.f2, Nat.lt_of_lt_of_le h.lt hb.size⟩
theorem C3.new (w : World) (a b c : Value) (T : TypeId) : C3 (w.alloc (.cells #[a, b, c] T)) w.heap.size a b c :=
  ⟨by simp, by simp, by simp, by simp, by simp, by simp, by simp⟩
/-- What a block of three cells that was just made tells behind a call. -/
theorem made3 {w w1 : World} {a b c : Value} {T : TypeId} (h : Below (w.alloc (.cells #[a, b, c] T)).heap.size (w.alloc (.cells #[a, b, c] T)) w1) :
    C3 w1 w.heap.size a b c ∧ Below w.heap.size w w1 := ⟨(C3.new w a b c T).below h, below_one _ h⟩

/-- A block of two cells that may be written. -/
structure C2 (w : World) (g : Nat) (a b : Value) : Prop where
  c0 : w.cell? ⟨g, 0, none⟩ = some a
  c1 : w.cell? ⟨g, 1, none⟩ = some b
  f0 : w.frozen? ⟨g, 0, none⟩ = false
  f1 : w.frozen? ⟨g, 1, none⟩ = false
  lt : g < w.heap.size
theorem C2.below {w w1 : World} {g : Nat} {a b : Value} (h : C2 w g a b) (hb : Below w.heap.size w w1) : C2 w1 g a b :=
  ⟨(hb.cell h.lt).trans h.c0, (hb.cell h.lt).trans h.c1, (hb.frozen h.lt).trans h.f0, (hb.frozen h.lt).trans h.f1, Nat.lt_of_lt_of_le h.lt hb.size⟩
theorem C2.new (w : World) (a b : Value) (T : TypeId) : C2 (w.alloc (.cells #[a, b] T)) w.heap.size a b :=
  ⟨by simp, by simp, by simp, by simp, by simp⟩
theorem made2 {w w1 : World} {a b : Value} {T : TypeId} (h : Below (w.alloc (.cells #[a, b] T)).heap.size (w.alloc (.cells #[a, b] T)) w1) :
    C2 w1 w.heap.size a b ∧ Below w.heap.size w w1 := ⟨(C2.new w a b T).below h, below_one _ h⟩

theorem newSafe_ok (neg : Bool) (c s : Nat) (w : World) (hs : s ≤ 19) (hc : c ≤ 9999999999999999999) :
    Calls Tryd.prog 80 #[.bool neg, .int .u64 c, .int .i64 s] w fun e w' => e = .returned (.tuple #[.agg #[.bool (neg && decide (0 < c)), .int .i8 s, .int .u64 c], .nilIface]) ∧ Below w.heap.size w w' := by
  have HU := Lib.hid (newUnsafe_any neg c s)
  generalize (neg && decide (0 < c)) = b at HU
  go_enter Tryd.func80, Tryd.ntmps80
  go_wp2_with (first | (go_at_call 85; refine (HU.out _ hs).mono ?_; rintro e w1 ⟨rfl, hb⟩; obtain ⟨H3, hb1⟩ := made3 hb; obtain ⟨c0, c1, c2, f0, f1, f2, hz⟩ := H3; have HB := Lib.hid hb1; clear hb hb1))
  exact bodyPost_ret (v := .tuple #[.agg #[.bool b, .int .i8 s, .int .u64 c], .nilIface]) (by simp [results, Tryd.results80, go_sem, c0, c1, c2, f0, f1, f2, hz]) rfl ⟨rfl, ((HB.out.setCell (Nat.le_refl _) _).setCell (Nat.le_refl _) _).setCell (Nat.le_refl _) _⟩

/-- Cells of elder blocks stand when one is made. -/
theorem old_cell {w : World} {b : Nat} {v : Value} (h : w.cell? ⟨b, 0, none⟩ = some v) (hl : b < w.heap.size) (o : Obj) : (w.alloc o).cell? ⟨b, 0, none⟩ = some v :=
  (((Below.refl w.heap.size w).alloc (Nat.le_refl _) o).cell (p := ⟨b, 0, none⟩) hl).trans h

theorem newSafe_range (neg : Bool) (c : Nat) (s : Int) (w : World) (hs : s < 0 ∨ 19 < s) (he : ErrAt w) :
    Calls Tryd.prog 80 #[.bool neg, .int .u64 c, .int .i64 s] w fun e w' => (∃ t v, e = .returned (.tuple #[.agg #[.bool false, .int .i8 0, .int .u64 0], .iface t v])) ∧ Below w.heap.size w w' := by
  obtain ⟨⟨t, v, h1⟩, _, hl⟩ := he
  have hl2 : 2 < w.heap.size := by omega
  have hA := old_cell h1 hl2
  by_cases h0 : s < 0
  · have g0 : decide (s < 0) = true := decide_eq_true h0
    clear hs h1 h0
    go_enter Tryd.func80, Tryd.ntmps80
    go_wp2
    go_region
    go_wp2
    exact bodyPost_ret (v := .tuple #[.agg #[.bool false, .int .i8 0, .int .u64 0], .iface t v]) (by simp [results, Tryd.results80, go_sem]) rfl ⟨⟨t, v, rfl⟩, by repeat (first | exact Below.refl _ _ | apply Below.drew | refine Below.setCell ?_ (Nat.le_refl _) _ | refine Below.alloc ?_ (Nat.le_refl _) _)⟩
  · have g0 : decide (s < 0) = false := decide_eq_false h0
    have g1 : decide (19 < s) = true := decide_eq_true (by omega)
    clear hs h1 h0
    go_enter Tryd.func80, Tryd.ntmps80
    go_wp2
    go_region
    go_wp2
    exact bodyPost_ret (v := .tuple #[.agg #[.bool false, .int .i8 0, .int .u64 0], .iface t v]) (by simp [results, Tryd.results80, go_sem]) rfl ⟨⟨t, v, rfl⟩, by repeat (first | exact Below.refl _ _ | apply Below.drew | refine Below.setCell ?_ (Nat.le_refl _) _ | refine Below.alloc ?_ (Nat.le_refl _) _)⟩

theorem newSafe_over (neg : Bool) (c s : Nat) (w : World) (hs : s ≤ 19) (hc : 9999999999999999999 < c) (he : ErrAt w) :
    Calls Tryd.prog 80 #[.bool neg, .int .u64 c, .int .i64 s] w fun e w' => (∃ t v, e = .returned (.tuple #[.agg #[.bool false, .int .i8 0, .int .u64 0], .iface t v])) ∧ Below w.heap.size w w' := by
  obtain ⟨_, ⟨t, v, h1⟩, hl⟩ := he
  have hA := old_cell h1 hl
  have g0 : decide ((s : Int) < 0) = false := decide_eq_false (by omega)
  have g1 : decide ((19 : Int) < s) = false := decide_eq_false (by omega)
  have g2 : decide ((9999999999999999999 : Int) < c) = true := decide_eq_true (by omega)
  clear hs h1 hc
  go_enter Tryd.func80, Tryd.ntmps80
  go_wp2
  go_region
  go_wp2
  exact bodyPost_ret (v := .tuple #[.agg #[.bool false, .int .i8 0, .int .u64 0], .iface t v]) (by simp [results, Tryd.results80, go_sem]) rfl ⟨⟨t, v, rfl⟩, by repeat (first | exact Below.refl _ _ | apply Below.drew | refine Below.setCell ?_ (Nat.le_refl _) _ | refine Below.alloc ?_ (Nat.le_refl _) _)⟩

/-- The parts of a decimal are told back. -/
theorem fix_any (b : Bool) (s c : Nat) (w : World) (hs : s ≤ 19) :
    Calls Tryd.prog 45 #[.agg #[.bool b, .int .i8 s, .int .u64 c]] w fun e w' => e = .returned (.agg #[.bool b, .int .u64 c, .int .i64 s]) ∧ Below w.heap.size w w' := by
  refine Pfix.impl_fix.calls b s c b c s w ?_
  simp only [Pfix.impl_fix.f, Pfix.govalues_Decimal_IsNeg.f, Pfix.govalues_Decimal_Coef.f, Pfix.govalues_Decimal_Scale.f, Option.bind_some]
  rw [show wrap64 (s : Int) = s by unfold wrap64; omega]

theorem New_ok (v : Int) (s : Nat) (w : World) (hs : s ≤ 19) (h1 : -9223372036854775808 ≤ v) (h2 : v ≤ 9223372036854775807) :
    Calls Tryd.prog 44 #[.int .i64 v, .int .i64 s] w fun e w' => e = .returned (.tuple #[.agg #[.bool (decide (v < 0)), .int .i8 s, .int .u64 v.natAbs], .nilIface]) ∧ Below w.heap.size w w' := by
  by_cases h0 : 0 ≤ v
  · have HS := Lib.hid (newSafe_ok false v.natAbs s)
    rw [show (false && decide (0 < v.natAbs)) = decide (v < 0) by simp; omega] at HS
    obtain ⟨n, rfl⟩ := Int.eq_ofNat_of_zero_le h0
    rw [show ((n : Int).natAbs) = n by omega] at HS ⊢
    have hd : decide ((n : Int) < 0) = false := decide_eq_false (by omega)
    rw [hd] at HS ⊢
    clear h0 hd
    go_enter Tryd.func44, Tryd.ntmps44
    go_wp2_with (first | (go_at_call 80; refine (HS.out _ hs (by omega)).mono ?_; rintro e w1 ⟨rfl, hb⟩; obtain ⟨H3, hb1⟩ := made3 hb; obtain ⟨c0, c1, c2, f0, f1, f2, hz⟩ := H3; have HB := Lib.hid hb1; clear hb hb1))
    exact bodyPost_ret (v := .tuple #[.agg #[.bool false, .int .i8 s, .int .u64 n], .nilIface]) (by simp [results, Tryd.results44, go_sem, c0, c1, c2, f0, f1, f2, hz]) rfl ⟨rfl, ((HB.out.setCell (Nat.le_refl _) _).setCell (Nat.le_refl _) _).setCell (Nat.le_refl _) _⟩
  · have HS := Lib.hid (newSafe_ok true v.natAbs s)
    have hd : decide (v < 0) = true := decide_eq_true (by omega)
    rw [show (true && decide (0 < v.natAbs)) = true by simp; omega] at HS
    rw [hd]
    by_cases hm : v = -9223372036854775808
    · subst hm
      rw [show ((-9223372036854775808 : Int).natAbs) = 9223372036854775808 from rfl] at HS ⊢
      rw [show (((9223372036854775808 : Nat)) : Int) = (9223372036854775808 : Int) from rfl] at HS ⊢
      clear h0 hd
      go_enter Tryd.func44, Tryd.ntmps44
      go_wp2_with (first | (go_at_call 80; refine (HS.out _ hs (by omega)).mono ?_; rintro e w1 ⟨rfl, hb⟩; obtain ⟨H3, hb1⟩ := made3 hb; obtain ⟨c0, c1, c2, f0, f1, f2, hz⟩ := H3; have HB := Lib.hid hb1; clear hb hb1))
      exact bodyPost_ret (v := .tuple #[.agg #[.bool true, .int .i8 s, .int .u64 9223372036854775808], .nilIface]) (by simp [results, Tryd.results44, go_sem, c0, c1, c2, f0, f1, f2, hz]) rfl ⟨rfl, ((HB.out.setCell (Nat.le_refl _) _).setCell (Nat.le_refl _) _).setCell (Nat.le_refl _) _⟩
    · have hmb : (v == -9223372036854775808) = false := beq_eq_false_iff_ne.2 hm
      have hvb : IntKind.u64.wrap (-v) = (v.natAbs : Nat) := by rw [IntWalk.u64_in _ (by omega)]; omega
      have hg : decide (0 ≤ v) = false := decide_eq_false h0
      have hv1 : v ≤ -1 := by omega
      have hv2 : -9223372036854775807 ≤ v := by omega
      have HV := Lib.hid (show -v = ((v.natAbs : Nat) : Int) by omega)
      have hn : v.natAbs ≤ 9999999999999999999 := by omega
      generalize v.natAbs = n at HS hvb HV hn ⊢
      clear h0 hd hm h1 hvb
      go_enter Tryd.func44, Tryd.ntmps44
      go_wp2_with fail
      rw [HV.out]
      refine (HS.out _ hs hn).mono ?_
      rintro e w1 ⟨rfl, hb⟩
      obtain ⟨⟨c0, c1, c2, f0, f1, f2, hz⟩, hb1⟩ := made3 hb
      have HB := Lib.hid hb1
      clear hb hb1
      go_wp2
      exact bodyPost_ret (v := .tuple #[.agg #[.bool true, .int .i8 s, .int .u64 n], .nilIface]) (by simp [results, Tryd.results44, go_sem, c0, c1, c2, f0, f1, f2, hz]) rfl ⟨rfl, ((HB.out.setCell (Nat.le_refl _) _).setCell (Nat.le_refl _) _).setCell (Nat.le_refl _) _⟩

theorem New_bad (v s : Int) (w : World) (hs : s < 0 ∨ 19 < s) (h1 : -9223372036854775808 ≤ v) (h2 : v ≤ 9223372036854775807) (he : ErrAt w) :
    Calls Tryd.prog 44 #[.int .i64 v, .int .i64 s] w fun e w' => (∃ t u, e = .returned (.tuple #[.agg #[.bool false, .int .i8 0, .int .u64 0], .iface t u])) ∧ Below w.heap.size w w' := by
  have HE : Hid (∀ o, ErrAt (w.alloc o)) := fun o => he.below ((Below.refl w.heap.size w).alloc (Nat.le_refl _) o)
  have HS := Lib.hid (fun (neg : Bool) (c : Nat) (W : World) (hW : ErrAt W) => newSafe_range neg c s W hs hW)
  clear he hs
  by_cases h0 : 0 ≤ v
  · obtain ⟨n, rfl⟩ := Int.eq_ofNat_of_zero_le h0
    have hg : decide ((0 : Int) ≤ n) = true := decide_eq_true h0
    clear h0
    go_enter Tryd.func44, Tryd.ntmps44
    go_wp2_with (first | (go_at_call 80; refine (HS.out _ n _ (HE.out _)).mono ?_; rintro e w1 ⟨⟨t, u, rfl⟩, hb⟩; obtain ⟨H3, hb1⟩ := made3 hb; obtain ⟨c0, c1, c2, f0, f1, f2, hz⟩ := H3; have HB := Lib.hid hb1; clear hb hb1))
    exact bodyPost_ret (v := .tuple #[.agg #[.bool false, .int .i8 0, .int .u64 0], .iface t u]) (by simp [results, Tryd.results44, go_sem, c0, c1, c2, f0, f1, f2, hz]) rfl ⟨⟨t, u, rfl⟩, ((HB.out.setCell (Nat.le_refl _) _).setCell (Nat.le_refl _) _).setCell (Nat.le_refl _) _⟩
  · by_cases hm : v = -9223372036854775808
    · subst hm
      have HS2 : Hid (∀ (W : World) (hW : ErrAt W), Calls Tryd.prog 80 #[.bool true, .int .u64 9223372036854775808, .int .i64 s] W fun e w' => (∃ t v, e = .returned (.tuple #[.agg #[.bool false, .int .i8 0, .int .u64 0], .iface t v])) ∧ Below W.heap.size W w') := fun W hW => HS.out true 9223372036854775808 W hW
      clear h0 HS
      go_enter Tryd.func44, Tryd.ntmps44
      go_wp2_with (first | (go_at_call 80; refine (HS2.out _ (HE.out _)).mono ?_; rintro e w1 ⟨⟨t, u, rfl⟩, hb⟩; obtain ⟨H3, hb1⟩ := made3 hb; obtain ⟨c0, c1, c2, f0, f1, f2, hz⟩ := H3; have HB := Lib.hid hb1; clear hb hb1))
      exact bodyPost_ret (v := .tuple #[.agg #[.bool false, .int .i8 0, .int .u64 0], .iface t u]) (by simp [results, Tryd.results44, go_sem, c0, c1, c2, f0, f1, f2, hz]) rfl ⟨⟨t, u, rfl⟩, ((HB.out.setCell (Nat.le_refl _) _).setCell (Nat.le_refl _) _).setCell (Nat.le_refl _) _⟩
    · have hmb : (v == -9223372036854775808) = false := beq_eq_false_iff_ne.2 hm
      have hg : decide (0 ≤ v) = false := decide_eq_false h0
      have hv1 : v ≤ -1 := by omega
      have hv2 : -9223372036854775807 ≤ v := by omega
      have HV := Lib.hid (show -v = ((v.natAbs : Nat) : Int) by omega)
      generalize v.natAbs = n at HV
      clear h0 hm h1
      go_enter Tryd.func44, Tryd.ntmps44
      go_wp2_with fail
      rw [HV.out]
      refine (HS.out _ n _ (HE.out _)).mono ?_
      rintro e w1 ⟨⟨t, u, rfl⟩, hb⟩
      obtain ⟨⟨c0, c1, c2, f0, f1, f2, hz⟩, hb1⟩ := made3 hb
      have HB := Lib.hid hb1
      clear hb hb1
      go_wp2
      exact bodyPost_ret (v := .tuple #[.agg #[.bool false, .int .i8 0, .int .u64 0], .iface t u]) (by simp [results, Tryd.results44, go_sem, c0, c1, c2, f0, f1, f2, hz]) rfl ⟨⟨t, u, rfl⟩, ((HB.out.setCell (Nat.le_refl _) _).setCell (Nat.le_refl _) _).setCell (Nat.le_refl _) _⟩

theorem fixNew_ok (v : Int) (s : Nat) (w : World) (hs : s ≤ 19) (h1 : -9223372036854775808 ≤ v) (h2 : v ≤ 9223372036854775807) :
    Calls Tryd.prog 17 #[.int .i64 v, .int .i64 s] w fun e w' => e = .returned (.tuple #[.agg #[.bool (decide (v < 0)), .int .u64 v.natAbs, .int .i64 s], .int .i64 0]) ∧ Below w.heap.size w w' := by
  have HS := Lib.hid (fun W => New_ok v s W hs h1 h2)
  have HF := Lib.hid (fun W => fix_any (decide (v < 0)) s v.natAbs W hs)
  generalize decide (v < 0) = b at HS HF ⊢
  generalize v.natAbs = n at HS HF ⊢
  go_enter Tryd.func17, Tryd.ntmps17
  go_wp2_with (first | (go_at_call 44; refine (HS.out _).mono ?_; rintro e w1 ⟨rfl, hb⟩; obtain ⟨H3, hb1⟩ := made3 hb; have HB := Lib.hid hb1; clear hb hb1) | (go_at_call 45; refine (HF.out _).mono ?_; rintro e w2 ⟨rfl, hb⟩; have hb2 := below_one _ hb; obtain ⟨c0, c1, c2, f0, f1, f2, hz⟩ := H3.below hb2; have HB2 := Lib.hid (below_by HB.out hb2); clear hb hb2))
  exact bodyPost_ret (v := .tuple #[.agg #[.bool b, .int .u64 n, .int .i64 s], .int .i64 0]) (by simp [results, Tryd.results17, go_sem, c0, c1, c2, f0, f1, f2, hz]) rfl ⟨rfl, ((HB2.out.setCell (Nat.le_refl _) _).setCell (Nat.le_refl _) _).setCell (Nat.le_refl _) _⟩

theorem fixNew_bad (v s : Int) (w : World) (hs : s < 0 ∨ 19 < s) (h1 : -9223372036854775808 ≤ v) (h2 : v ≤ 9223372036854775807) (he : ErrAt w) :
    Calls Tryd.prog 17 #[.int .i64 v, .int .i64 s] w fun e w' => e = .returned (.tuple #[.agg #[.bool false, .int .u64 0, .int .i64 0], .int .i64 1]) ∧ Below w.heap.size w w' := by
  have HS : Hid (∀ o, Calls Tryd.prog 44 #[.int .i64 v, .int .i64 s] (w.alloc o) fun e w' => (∃ t u, e = .returned (.tuple #[.agg #[.bool false, .int .i8 0, .int .u64 0], .iface t u])) ∧ Below (w.alloc o).heap.size (w.alloc o) w') := fun o => New_bad v s _ hs h1 h2 (he.below ((Below.refl w.heap.size w).alloc (Nat.le_refl _) o))
  clear hs he
  go_enter Tryd.func17, Tryd.ntmps17
  go_wp2_with (first | (go_at_call 44; refine (HS.out _).mono ?_; rintro e w1 ⟨⟨t, u, rfl⟩, hb⟩; obtain ⟨H3, hb1⟩ := made3 hb; obtain ⟨c0, c1, c2, f0, f1, f2, hz⟩ := H3; have HB := Lib.hid hb1; clear hb hb1))
  exact bodyPost_ret (v := .tuple #[.agg #[.bool false, .int .u64 0, .int .i64 0], .int .i64 1]) (by simp [results, Tryd.results17, go_sem, c0, c1, c2, f0, f1, f2, hz]) rfl ⟨rfl, below_at (((HB.out.setCell (Nat.le_refl _) _).setCell (Nat.le_refl _) _).setCell (Nat.le_refl _) _) _⟩
end Go.Proofs.YthkmgjkajllemaaDoor.Make
