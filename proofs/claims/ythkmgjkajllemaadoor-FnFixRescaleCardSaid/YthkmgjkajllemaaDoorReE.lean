/- FnFixRescale: for every decimal of govalues as parts and every scale, the law answers true; the row lists the package's two errors and its table of powers of ten, and the card ties them to the program's text. -/
import Derived.Test.YthkmgjkajllemaaDoorReD
import Derived.Test.YthkmgjkajllemaaDoorRows
import Derived.ProofKit
import Derived.LaidMore
import Derived.Lib.LaidTab
import Derived.Stop.LaidErr
import Derived.OpenShut
import Derived.OpenVars
import Derived.Lib.SmallJoins
import Derived.Test.YthkmgjkajllemaaDoorCards
import Derived.Test.YthkmgjkajllemaaDoorTie
import Derived.ChangeOld
import Derived.SevenTiedAt
import Derived.Stop.Joined

/- FixCeil and FixRescale: the doors to govalues' functions of a decimal and a scale. -/
namespace Go.Proofs.YthkmgjkajllemaaDoor.Spec
open Go.RowKit Go.Proofs.YthkmgjkajllemaaDoorW.PrintWords Go.Proofs.YthkmgjkajllemaaDoor.Make
set_option linter.unusedVariables false
set_option linter.unusedSimpArgs false

set_option maxHeartbeats 1000000 in
theorem fixCeil_ok (neg : Bool) (n s : Nat) (z : Int) (nb : Bool) (m t : Nat) (w : World) (hs : s ≤ 19) (hn : n ≤ 9999999999999999999) (ht : t ≤ 19)
    (hc : ∀ W, Below w.heap.size w W → Calls Tryd.prog 64 #[.agg #[.bool (neg && decide (0 < n)), .int .i8 s, .int .u64 n], .int .i64 z] W fun e w' => e = .returned (.agg #[.bool nb, .int .i8 t, .int .u64 m]) ∧ Below W.heap.size W w') :
    Calls Tryd.prog 27 #[.agg #[.bool neg, .int .u64 n, .int .i64 s], .int .i64 z] w fun e w' => e = .returned (.tuple #[.agg #[.bool nb, .int .u64 m, .int .i64 t], .int .i64 0]) ∧ Below w.heap.size w w' := by
  have hmf : ∀ (fn : Fn) (first cap : Array Value) (w : World), (Instr.makeFunc fn first cap).run Tryd.prog w = .ok (.func fn first cap) w := fun _ _ _ _ => rfl
  have HX := Lib.hid (fun W => fixed_ok neg n s W hs hn)
  have HZ := Lib.hid hc
  generalize (neg && decide (0 < n)) = b at HX HZ
  have HF := Lib.hid (fun W => fix_any nb t m W ht)
  have HS : Hid (St w (((w.alloc (.cells #[.bool neg, .int .u64 n, .int .i64 s] 32)).alloc (.cells #[.bool false, .int .u64 0, .int .i64 0] 32)).alloc (.cells #[.int .i64 0] 3))
      [(w.heap.size + 1, 0, .bool false), (w.heap.size + 1, 1, .int .u64 0), (w.heap.size + 1, 2, .int .i64 0)] (w.heap.size + 1) 3) :=
    St.call ⟨Cells.box3 (Cells.nil _) (by simp) _ _ _ _, fun o _ => free_box (by simp) _ _ _, by simp, ((Below.refl _ _).alloc (Nat.le_refl _) _).alloc (by simp) _⟩ ((Below.refl _ _).alloc (Nat.le_refl _) _)
  have HT : Hid (St w (((w.alloc (.cells #[.bool neg, .int .u64 n, .int .i64 s] 32)).alloc (.cells #[.bool false, .int .u64 0, .int .i64 0] 32)).alloc (.cells #[.int .i64 0] 3))
      [(w.heap.size + 1 + 1, 0, .int .i64 0)] (w.heap.size + 1 + 1) 1) :=
    ⟨Cells.box1 (Cells.nil _) (by simp) _ _, fun o _ => free_box (by simp) _ _ _, by simp, (((Below.refl _ _).alloc (Nat.le_refl _) _).alloc (by simp) _).alloc (by simp; omega) _⟩
  clear hs hn hc ht
  go_enter_defers Tryd.func27, Tryd.ntmps27
  go_wp2_with (first | (go_at_call 48; go_must (refine (HX.out _).mono ?_); rintro e w2 ⟨rfl, hb⟩; have HS2 := Lib.hid (HS.out.call hb); have HT2 := Lib.hid (HT.out.call hb); have HL2 := Lib.hid HS2.out.lt; have HL2' := Lib.hid HT2.out.lt; clear hb) | (go_at_call 64; go_must (refine (HZ.out _ (below_at HS2.out.below _)).mono ?_); rintro e w3 ⟨rfl, hb⟩; have hb1 := below_one _ hb; have HS3 := Lib.hid (HS2.out.call hb1); have HT3 := Lib.hid (HT2.out.call hb1); clear hb hb1) | (go_at_call 45; go_must (refine (HF.out _).mono ?_); rintro e w4 ⟨rfl, hb⟩; have HS4 := Lib.hid (HS3.out.call hb); have HT4 := Lib.hid (HT3.out.call hb); obtain ⟨d0, d1, d2, -⟩ := HS4.out.cells; obtain ⟨d3, -⟩ := HT4.out.cells; have f0 := HS4.out.free 0 (by omega); have f1 := HS4.out.free 1 (by omega); have f2 := HS4.out.free 2 (by omega); have f3 := HT4.out.free 0 (by omega); clear hb))
  refine leaves_cons (f := 63) (args := #[.pointer (some ⟨w.heap.size + 1, 0, none⟩), .pointer (some ⟨w.heap.size + 1 + 1, 0, none⟩)]) (by simp) (by simp [go_sem]) ?_
  refine (idle63 _ _ _).mono ?_
  rintro e u' w'' ⟨rfl, rfl, rfl⟩
  have HE := (((HS4.out.below.setCell (p := ⟨w.heap.size + 1, 0, none⟩) (Nat.le_succ _) (.bool nb)).setCell (p := ⟨w.heap.size + 1, 1, none⟩) (Nat.le_succ _) (.int .u64 m)).setCell (p := ⟨w.heap.size + 1, 2, none⟩) (Nat.le_succ _) (.int .i64 t)).setCell (p := ⟨w.heap.size + 1 + 1, 0, none⟩) (by show w.heap.size ≤ w.heap.size + 1 + 1; omega) (.int .i64 0)
  have hz := HS4.out.lt
  have hz1 := HT4.out.lt
  have hne : w.heap.size + 1 ≠ w.heap.size + 1 + 1 := by omega
  simp [Leaves, settle, results, Tryd.results27, go_sem, d0, d1, d2, d3, f0, f1, f2, f3]
  exact HE
set_option maxHeartbeats 1000000 in
theorem fixCeil_bad (neg : Bool) (n : Nat) (y z : Int) (w : World) (h : 9999999999999999999 < n ∨ y < 0 ∨ 19 < y) (he : ErrAt w) :
    Calls Tryd.prog 27 #[.agg #[.bool neg, .int .u64 n, .int .i64 y], .int .i64 z] w fun e w' => e = .returned (.tuple #[.agg #[.bool false, .int .u64 0, .int .i64 0], .int .i64 3]) ∧ Below w.heap.size w w' := by
  have hmf : ∀ (fn : Fn) (first cap : Array Value) (w : World), (Instr.makeFunc fn first cap).run Tryd.prog w = .ok (.func fn first cap) w := fun _ _ _ _ => rfl
  have HX := Lib.hid (fun W hW => fixed_bad neg n y W h hW)
  have HEr := Lib.hid (fun (W : World) (hb : Below w.heap.size w W) => he.below hb)
  have HS : Hid (St w (((w.alloc (.cells #[.bool neg, .int .u64 n, .int .i64 y] 32)).alloc (.cells #[.bool false, .int .u64 0, .int .i64 0] 32)).alloc (.cells #[.int .i64 0] 3))
      [(w.heap.size + 1, 0, .bool false), (w.heap.size + 1, 1, .int .u64 0), (w.heap.size + 1, 2, .int .i64 0)] (w.heap.size + 1) 3) :=
    St.call ⟨Cells.box3 (Cells.nil _) (by simp) _ _ _ _, fun o _ => free_box (by simp) _ _ _, by simp, ((Below.refl _ _).alloc (Nat.le_refl _) _).alloc (by simp) _⟩ ((Below.refl _ _).alloc (Nat.le_refl _) _)
  have HT : Hid (St w (((w.alloc (.cells #[.bool neg, .int .u64 n, .int .i64 y] 32)).alloc (.cells #[.bool false, .int .u64 0, .int .i64 0] 32)).alloc (.cells #[.int .i64 0] 3))
      [(w.heap.size + 1 + 1, 0, .int .i64 0)] (w.heap.size + 1 + 1) 1) :=
    ⟨Cells.box1 (Cells.nil _) (by simp) _ _, fun o _ => free_box (by simp) _ _ _, by simp, (((Below.refl _ _).alloc (Nat.le_refl _) _).alloc (by simp) _).alloc (by simp; omega) _⟩
  clear h he
  go_enter_defers Tryd.func27, Tryd.ntmps27
  go_wp2_with (first | (go_at_call 48; go_must (refine (HX.out _ (HEr.out _ HS.out.below)).mono ?_); rintro e w2 ⟨rfl, hb⟩; have HS2 := Lib.hid (HS.out.call hb); have HT2 := Lib.hid (HT.out.call hb); have HL2 := Lib.hid HS2.out.lt; have HL2' := Lib.hid HT2.out.lt; have HO := Lib.hid (below_at (Below.refl w2.heap.size w2) (.cells #[.bool false, .int .i8 0, .int .u64 0] 74)); have HS4 := Lib.hid (HS2.out.call HO.out); have HT4 := Lib.hid (HT2.out.call HO.out); obtain ⟨d0, d1, d2, -⟩ := HS4.out.cells; obtain ⟨d3, -⟩ := HT4.out.cells; have f0 := HS4.out.free 0 (by omega); have f1 := HS4.out.free 1 (by omega); have f2 := HS4.out.free 2 (by omega); have f3 := HT4.out.free 0 (by omega); clear hb))
  refine leaves_cons (f := 63) (args := #[.pointer (some ⟨w.heap.size + 1, 0, none⟩), .pointer (some ⟨w.heap.size + 1 + 1, 0, none⟩)]) (by simp) (by simp [go_sem]) ?_
  refine (idle63 _ _ _).mono ?_
  rintro e u' w'' ⟨rfl, rfl, rfl⟩
  have HE := (((HS4.out.below.setCell (p := ⟨w.heap.size + 1, 0, none⟩) (Nat.le_succ _) (.bool false)).setCell (p := ⟨w.heap.size + 1, 1, none⟩) (Nat.le_succ _) (.int .u64 0)).setCell (p := ⟨w.heap.size + 1, 2, none⟩) (Nat.le_succ _) (.int .i64 0)).setCell (p := ⟨w.heap.size + 1 + 1, 0, none⟩) (by show w.heap.size ≤ w.heap.size + 1 + 1; omega) (.int .i64 3)
  have hz := HS4.out.lt
  have hz1 := HT4.out.lt
  have hne : w.heap.size + 1 ≠ w.heap.size + 1 + 1 := by omega
  simp [Leaves, settle, results, Tryd.results27, go_sem, d0, d1, d2, d3, f0, f1, f2, f3]
  exact HE
set_option maxHeartbeats 1000000 in
theorem fixRescale_ok (neg : Bool) (n s : Nat) (z : Int) (nb : Bool) (m t : Nat) (w : World) (hs : s ≤ 19) (hn : n ≤ 9999999999999999999) (ht : t ≤ 19)
    (hc : ∀ W, Below w.heap.size w W → Calls Tryd.prog 72 #[.agg #[.bool (neg && decide (0 < n)), .int .i8 s, .int .u64 n], .int .i64 z] W fun e w' => e = .returned (.agg #[.bool nb, .int .i8 t, .int .u64 m]) ∧ Below W.heap.size W w') :
    Calls Tryd.prog 37 #[.agg #[.bool neg, .int .u64 n, .int .i64 s], .int .i64 z] w fun e w' => e = .returned (.tuple #[.agg #[.bool nb, .int .u64 m, .int .i64 t], .int .i64 0]) ∧ Below w.heap.size w w' := by
  have hmf : ∀ (fn : Fn) (first cap : Array Value) (w : World), (Instr.makeFunc fn first cap).run Tryd.prog w = .ok (.func fn first cap) w := fun _ _ _ _ => rfl
  have HX := Lib.hid (fun W => fixed_ok neg n s W hs hn)
  have HZ := Lib.hid hc
  generalize (neg && decide (0 < n)) = b at HX HZ
  have HF := Lib.hid (fun W => fix_any nb t m W ht)
  have HS : Hid (St w (((w.alloc (.cells #[.bool neg, .int .u64 n, .int .i64 s] 32)).alloc (.cells #[.bool false, .int .u64 0, .int .i64 0] 32)).alloc (.cells #[.int .i64 0] 3))
      [(w.heap.size + 1, 0, .bool false), (w.heap.size + 1, 1, .int .u64 0), (w.heap.size + 1, 2, .int .i64 0)] (w.heap.size + 1) 3) :=
    St.call ⟨Cells.box3 (Cells.nil _) (by simp) _ _ _ _, fun o _ => free_box (by simp) _ _ _, by simp, ((Below.refl _ _).alloc (Nat.le_refl _) _).alloc (by simp) _⟩ ((Below.refl _ _).alloc (Nat.le_refl _) _)
  have HT : Hid (St w (((w.alloc (.cells #[.bool neg, .int .u64 n, .int .i64 s] 32)).alloc (.cells #[.bool false, .int .u64 0, .int .i64 0] 32)).alloc (.cells #[.int .i64 0] 3))
      [(w.heap.size + 1 + 1, 0, .int .i64 0)] (w.heap.size + 1 + 1) 1) :=
    ⟨Cells.box1 (Cells.nil _) (by simp) _ _, fun o _ => free_box (by simp) _ _ _, by simp, (((Below.refl _ _).alloc (Nat.le_refl _) _).alloc (by simp) _).alloc (by simp; omega) _⟩
  clear hs hn hc ht
  go_enter_defers Tryd.func37, Tryd.ntmps37
  go_wp2_with (first | (go_at_call 48; go_must (refine (HX.out _).mono ?_); rintro e w2 ⟨rfl, hb⟩; have HS2 := Lib.hid (HS.out.call hb); have HT2 := Lib.hid (HT.out.call hb); have HL2 := Lib.hid HS2.out.lt; have HL2' := Lib.hid HT2.out.lt; clear hb) | (go_at_call 72; go_must (refine (HZ.out _ (below_at HS2.out.below _)).mono ?_); rintro e w3 ⟨rfl, hb⟩; have hb1 := below_one _ hb; have HS3 := Lib.hid (HS2.out.call hb1); have HT3 := Lib.hid (HT2.out.call hb1); clear hb hb1) | (go_at_call 45; go_must (refine (HF.out _).mono ?_); rintro e w4 ⟨rfl, hb⟩; have HS4 := Lib.hid (HS3.out.call hb); have HT4 := Lib.hid (HT3.out.call hb); obtain ⟨d0, d1, d2, -⟩ := HS4.out.cells; obtain ⟨d3, -⟩ := HT4.out.cells; have f0 := HS4.out.free 0 (by omega); have f1 := HS4.out.free 1 (by omega); have f2 := HS4.out.free 2 (by omega); have f3 := HT4.out.free 0 (by omega); clear hb))
  refine leaves_cons (f := 71) (args := #[.pointer (some ⟨w.heap.size + 1, 0, none⟩), .pointer (some ⟨w.heap.size + 1 + 1, 0, none⟩)]) (by simp) (by simp [go_sem]) ?_
  refine (idle71 _ _ _).mono ?_
  rintro e u' w'' ⟨rfl, rfl, rfl⟩
  have HE := (((HS4.out.below.setCell (p := ⟨w.heap.size + 1, 0, none⟩) (Nat.le_succ _) (.bool nb)).setCell (p := ⟨w.heap.size + 1, 1, none⟩) (Nat.le_succ _) (.int .u64 m)).setCell (p := ⟨w.heap.size + 1, 2, none⟩) (Nat.le_succ _) (.int .i64 t)).setCell (p := ⟨w.heap.size + 1 + 1, 0, none⟩) (by show w.heap.size ≤ w.heap.size + 1 + 1; omega) (.int .i64 0)
  have hz := HS4.out.lt
  have hz1 := HT4.out.lt
  have hne : w.heap.size + 1 ≠ w.heap.size + 1 + 1 := by omega
  simp [Leaves, settle, results, Tryd.results37, go_sem, d0, d1, d2, d3, f0, f1, f2, f3]
  exact HE
set_option maxHeartbeats 1000000 in
theorem fixRescale_bad (neg : Bool) (n : Nat) (y z : Int) (w : World) (h : 9999999999999999999 < n ∨ y < 0 ∨ 19 < y) (he : ErrAt w) :
    Calls Tryd.prog 37 #[.agg #[.bool neg, .int .u64 n, .int .i64 y], .int .i64 z] w fun e w' => e = .returned (.tuple #[.agg #[.bool false, .int .u64 0, .int .i64 0], .int .i64 3]) ∧ Below w.heap.size w w' := by
  have hmf : ∀ (fn : Fn) (first cap : Array Value) (w : World), (Instr.makeFunc fn first cap).run Tryd.prog w = .ok (.func fn first cap) w := fun _ _ _ _ => rfl
  have HX := Lib.hid (fun W hW => fixed_bad neg n y W h hW)
  have HEr := Lib.hid (fun (W : World) (hb : Below w.heap.size w W) => he.below hb)
  have HS : Hid (St w (((w.alloc (.cells #[.bool neg, .int .u64 n, .int .i64 y] 32)).alloc (.cells #[.bool false, .int .u64 0, .int .i64 0] 32)).alloc (.cells #[.int .i64 0] 3))
      [(w.heap.size + 1, 0, .bool false), (w.heap.size + 1, 1, .int .u64 0), (w.heap.size + 1, 2, .int .i64 0)] (w.heap.size + 1) 3) :=
    St.call ⟨Cells.box3 (Cells.nil _) (by simp) _ _ _ _, fun o _ => free_box (by simp) _ _ _, by simp, ((Below.refl _ _).alloc (Nat.le_refl _) _).alloc (by simp) _⟩ ((Below.refl _ _).alloc (Nat.le_refl _) _)
  have HT : Hid (St w (((w.alloc (.cells #[.bool neg, .int .u64 n, .int .i64 y] 32)).alloc (.cells #[.bool false, .int .u64 0, .int .i64 0] 32)).alloc (.cells #[.int .i64 0] 3))
      [(w.heap.size + 1 + 1, 0, .int .i64 0)] (w.heap.size + 1 + 1) 1) :=
    ⟨Cells.box1 (Cells.nil _) (by simp) _ _, fun o _ => free_box (by simp) _ _ _, by simp, (((Below.refl _ _).alloc (Nat.le_refl _) _).alloc (by simp) _).alloc (by simp; omega) _⟩
  clear h he
  go_enter_defers Tryd.func37, Tryd.ntmps37
  go_wp2_with (first | (go_at_call 48; go_must (refine (HX.out _ (HEr.out _ HS.out.below)).mono ?_); rintro e w2 ⟨rfl, hb⟩; have HS2 := Lib.hid (HS.out.call hb); have HT2 := Lib.hid (HT.out.call hb); have HL2 := Lib.hid HS2.out.lt; have HL2' := Lib.hid HT2.out.lt; have HO := Lib.hid (below_at (Below.refl w2.heap.size w2) (.cells #[.bool false, .int .i8 0, .int .u64 0] 74)); have HS4 := Lib.hid (HS2.out.call HO.out); have HT4 := Lib.hid (HT2.out.call HO.out); obtain ⟨d0, d1, d2, -⟩ := HS4.out.cells; obtain ⟨d3, -⟩ := HT4.out.cells; have f0 := HS4.out.free 0 (by omega); have f1 := HS4.out.free 1 (by omega); have f2 := HS4.out.free 2 (by omega); have f3 := HT4.out.free 0 (by omega); clear hb))
  refine leaves_cons (f := 71) (args := #[.pointer (some ⟨w.heap.size + 1, 0, none⟩), .pointer (some ⟨w.heap.size + 1 + 1, 0, none⟩)]) (by simp) (by simp [go_sem]) ?_
  refine (idle71 _ _ _).mono ?_
  rintro e u' w'' ⟨rfl, rfl, rfl⟩
  have HE := (((HS4.out.below.setCell (p := ⟨w.heap.size + 1, 0, none⟩) (Nat.le_succ _) (.bool false)).setCell (p := ⟨w.heap.size + 1, 1, none⟩) (Nat.le_succ _) (.int .u64 0)).setCell (p := ⟨w.heap.size + 1, 2, none⟩) (Nat.le_succ _) (.int .i64 0)).setCell (p := ⟨w.heap.size + 1 + 1, 0, none⟩) (by show w.heap.size ≤ w.heap.size + 1 + 1; omega) (.int .i64 3)
  have hz := HS4.out.lt
  have hz1 := HT4.out.lt
  have hne : w.heap.size + 1 ≠ w.heap.size + 1 + 1 := by omega
  simp [Leaves, settle, results, Tryd.results37, go_sem, d0, d1, d2, d3, f0, f1, f2, f3]
  exact HE
end Go.Proofs.YthkmgjkajllemaaDoor.Spec

/- The law FnFixCeil answers true for every decimal and every scale. -/
namespace Go.Proofs.YthkmgjkajllemaaDoor.Spec
open Go.RowKit Go.Proofs.YthkmgjkajllemaaDoorW.PrintWords Go.Proofs.YthkmgjkajllemaaDoor.Num Go.Proofs.YthkmgjkajllemaaDoor.Make
set_option linter.unusedVariables false
set_option linter.unusedSimpArgs false

/-- The law's walk over a decimal, out of what its two calls tell. -/
theorem ceil_law_of (neg : Bool) (n s : Nat) (z : Int) (nb : Bool) (m t : Nat) (w : World) (hs : s ≤ 19) (hn : n ≤ 9999999999999999999)
    (h1 : ∀ W, Below w.heap.size w W → Calls Tryd.prog 27 #[.agg #[.bool neg, .int .u64 n, .int .i64 s], .int .i64 z] W fun e w' => e = .returned (.tuple #[.agg #[.bool nb, .int .u64 m, .int .i64 t], .int .i64 0]) ∧ Below W.heap.size W w')
    (h2 : ∀ W, Calls Tryd.prog 28 #[.agg #[.bool neg, .int .u64 n, .int .i64 s], .agg #[.bool nb, .int .u64 m, .int .i64 t], .int .i64 0, .int .i64 z, .int .i64 3] W fun e w' => e = .returned (.bool true) ∧ Below W.heap.size W w') :
    Calls Tryd.prog 6 #[.agg #[.bool neg, .int .u64 n, .int .i64 s], .int .i64 z] w fun e w' => e = .returned (.bool true) ∧ Below w.heap.size w w' := by
  have HI := Lib.hid (fun W => fixIs_ok neg n s W hn hs)
  have H1 := Lib.hid h1
  have H2 := Lib.hid h2
  have HS : Hid (St w (w.alloc (.cells #[.bool neg, .int .u64 n, .int .i64 s] 32)) [(w.heap.size, 0, .bool neg), (w.heap.size, 1, .int .u64 n), (w.heap.size, 2, .int .i64 s)] w.heap.size 0) :=
    ⟨Cells.box3 (Cells.nil _) rfl _ _ _ _, fun o ho => absurd ho (by omega), by simp, (Below.refl _ _).alloc (Nat.le_refl _) _⟩
  clear hs hn h1 h2
  go_enter Tryd.func6, Tryd.ntmps6
  go_wp2_with (first | (go_at_call 27; go_must (refine (H1.out _ HS.out.below).mono ?_); rintro e w2 ⟨rfl, hb⟩; have HS2 := Lib.hid (HS.out.call hb); have HO3 := Lib.hid (below_at (Below.refl w2.heap.size w2) (.cells #[.bool nb, .int .u64 m, .int .i64 t] 32)); have HS3 := Lib.hid (HS2.out.call HO3.out); have HW3 : Hid (St w (w2.alloc (.cells #[.bool nb, .int .u64 m, .int .i64 t] 32)) [(w2.heap.size, 0, .bool nb), (w2.heap.size, 1, .int .u64 m), (w2.heap.size, 2, .int .i64 t)] w2.heap.size 0) := Lib.hid ⟨Cells.box3 (Cells.nil _) rfl _ _ _ _, fun o ho => absurd ho (by omega), by simp, HS3.out.below⟩; obtain ⟨a0, a1, a2, -⟩ := HS3.out.cells; clear hb) | (go_at_call 20; go_must (refine (HI.out _).mono ?_); rintro e w4 ⟨rfl, hb⟩; have HS4 := Lib.hid (HS3.out.call hb); have HW4 := Lib.hid (HW3.out.call hb); obtain ⟨b0, b1, b2, -⟩ := HS4.out.cells; obtain ⟨c0, c1, c2, -⟩ := HW4.out.cells; clear hb) | (go_at_call 28; go_must (refine (H2.out _).mono ?_); rintro e w5 ⟨rfl, hb⟩; have HS5 := Lib.hid (HS4.out.call hb); clear hb))
  go_ret
  exact ⟨rfl, HS5.out.below⟩
theorem ceil_law_bad (neg : Bool) (n : Nat) (y z : Int) (w : World) (h : 9999999999999999999 < n ∨ y < 0 ∨ 19 < y) (he : ErrAt w) :
    Calls Tryd.prog 6 #[.agg #[.bool neg, .int .u64 n, .int .i64 y], .int .i64 z] w fun e w' => e = .returned (.bool true) ∧ Below w.heap.size w w' := by
  have HI : Hid (∀ W, Calls Tryd.prog 20 #[.agg #[.bool neg, .int .u64 n, .int .i64 y]] W fun e w' => e = .returned (.bool false) ∧ Below W.heap.size W w') := by
    refine Lib.hid (fun W => ?_)
    by_cases hn : 9999999999999999999 < n
    · exact fixIs_big neg n y W hn
    · exact fixIs_scale neg n y W (by omega) (by omega)
  have H1 := Lib.hid (fun W hW => fixCeil_bad neg n y z W h hW)
  have HEr := Lib.hid (fun (W : World) (hb : Below w.heap.size w W) => he.below hb)
  have HS : Hid (St w (w.alloc (.cells #[.bool neg, .int .u64 n, .int .i64 y] 32)) [(w.heap.size, 0, .bool neg), (w.heap.size, 1, .int .u64 n), (w.heap.size, 2, .int .i64 y)] w.heap.size 0) :=
    ⟨Cells.box3 (Cells.nil _) rfl _ _ _ _, fun o ho => absurd ho (by omega), by simp, (Below.refl _ _).alloc (Nat.le_refl _) _⟩
  clear h he
  go_enter Tryd.func6, Tryd.ntmps6
  go_wp2_with (first | (go_at_call 27; go_must (refine (H1.out _ (HEr.out _ HS.out.below)).mono ?_); rintro e w2 ⟨rfl, hb⟩; have HS2 := Lib.hid (HS.out.call hb); have HO3 := Lib.hid (below_at (Below.refl w2.heap.size w2) (.cells #[.bool false, .int .u64 0, .int .i64 0] 32)); have HS3 := Lib.hid (HS2.out.call HO3.out); obtain ⟨a0, a1, a2, -⟩ := HS3.out.cells; clear hb) | (go_at_call 20; go_must (refine (HI.out _).mono ?_); rintro e w4 ⟨rfl, hb⟩; have HS4 := Lib.hid (HS3.out.call hb); clear hb))
  go_ret
  exact ⟨rfl, HS4.out.below⟩
theorem pow_at {w W : World} (hp : Fint.PowAt w) (i : Nat) (hi : i < 20) (hb : Below w.heap.size w W) : W.cell? ⟨0, i, none⟩ = some (.int .u64 ((10 ^ i : Nat) : Int)) := pw_cell_below hb (hp i hi)
theorem div_le10 (n d : Nat) (hn : n ≤ 9999999999999999999) (hd : 1 ≤ d) : n / 10 ^ d ≤ 999999999999999999 := by
  have h : n / 10 ^ d ≤ n / 10 := Nat.div_le_div_left (ten_le d hd).1 (by decide)
  omega
theorem rUp_le (n d : Nat) (hn : n ≤ 9999999999999999999) (hd : 1 ≤ d) : rUp n d ≤ 9999999999999999999 := by
  have := div_le10 n d hn hd
  unfold rUp
  split <;> omega
/-- The law. -/
theorem ceil_law (neg : Bool) (n : Nat) (y z : Int) (w : World) (hp : Fint.PowAt w) (he : ErrAt w) (hz0 : -9223372036854775808 ≤ z) (hz1 : z ≤ 9223372036854775807) :
    Calls Tryd.prog 6 #[.agg #[.bool neg, .int .u64 n, .int .i64 y], .int .i64 z] w fun e w' => e = .returned (.bool true) ∧ Below w.heap.size w w' := by
  by_cases h : 9999999999999999999 < n ∨ y < 0 ∨ 19 < y
  · exact ceil_law_bad neg n y z w h he
  · obtain ⟨s, rfl⟩ := Int.eq_ofNat_of_zero_le (show 0 ≤ y by omega)
    have hs : s ≤ 19 := by omega
    have hn : n ≤ 9999999999999999999 := by omega
    clear h
    by_cases hz : z < 0
    · by_cases h0 : s = 0
      · exact ceil_law_of neg n s z (neg && decide (0 < n)) n s w hs hn
          (fun W hW => fixCeil_ok neg n s z _ n s W hs hn hs (fun W' hW' => ceil_stay_neg _ n s W' hs z hz hz0 h0))
          (fun W => gvTo_stay_neg neg n s hn z 3 W h0 hz hz0)
      · cases hb : (neg && decide (0 < n))
        · have hm : rq 3 (neg && decide (0 < n)) (n * 10 ^ 0) (10 ^ s) = rUp n (s - 0) := by
            have := rq_ceil (neg && decide (0 < n)) n 0 s
            rw [Nat.zero_add] at this
            rw [this, hb]; rfl
          have g := gvTo_round_neg neg n s hn (rUp n (s - 0)) z 3
          refine ceil_law_of neg n s z (neg && decide (0 < n) && decide (0 < rUp n (s - 0))) (rUp n (s - 0)) 0 w hs hn
            (fun W hW => fixCeil_ok neg n s z _ (rUp n (s - 0)) 0 W hs hn (by omega) (fun W' hW' => ceil_neg_up _ n s W' hs hn z hz hz0 (by omega) hb (pow_at hp _ (by omega) (below_by hW hW'))))
            (fun W => g W hs hz hz0 (by omega) hm (rUp_le n _ hn (by omega)))
        · have hm : rq 3 (neg && decide (0 < n)) (n * 10 ^ 0) (10 ^ s) = n / 10 ^ (s - 0) := by
            have := rq_ceil (neg && decide (0 < n)) n 0 s
            rw [Nat.zero_add] at this
            rw [this, hb]; rfl
          have g := gvTo_round_neg neg n s hn (n / 10 ^ (s - 0)) z 3
          refine ceil_law_of neg n s z (neg && decide (0 < n) && decide (0 < n / 10 ^ (s - 0))) (n / 10 ^ (s - 0)) 0 w hs hn
            (fun W hW => fixCeil_ok neg n s z _ (n / 10 ^ (s - 0)) 0 W hs hn (by omega) (fun W' hW' => ceil_neg_down _ n s W' hs hn z hz hz0 (by omega) hb (pow_at hp _ (by omega) (below_by hW hW'))))
            (fun W => g W hs hz hz0 (by omega) hm (by have := div_le10 n (s - 0) hn (by omega); omega))
    · obtain ⟨k, rfl⟩ := Int.eq_ofNat_of_zero_le (show 0 ≤ z by omega)
      by_cases hk : s ≤ k
      · exact ceil_law_of neg n s k (neg && decide (0 < n)) n s w hs hn
          (fun W hW => fixCeil_ok neg n s k _ n s W hs hn hs (fun W' hW' => ceil_stay_nat _ n s W' hs k hk))
          (fun W => gvTo_stay_nat neg n s hn k 3 W hs hk (by omega))
      · have hks : k + (s - k) = s := by omega
        cases hb : (neg && decide (0 < n))
        · have hm : rq 3 (neg && decide (0 < n)) (n * 10 ^ k) (10 ^ s) = rUp n (s - k) := by
            have := rq_ceil (neg && decide (0 < n)) n k (s - k)
            rw [hks] at this
            rw [this, hb]; rfl
          refine ceil_law_of neg n s k (neg && decide (0 < n) && decide (0 < rUp n (s - k))) (rUp n (s - k)) k w hs hn
            (fun W hW => fixCeil_ok neg n s k _ (rUp n (s - k)) k W hs hn (by omega) (fun W' hW' => ceil_nat_up _ n s W' hs hn k (by omega) hb (pow_at hp _ (by omega) (below_by hW hW'))))
            (fun W => gvTo_round_nat neg n s hn (rUp n (s - k)) k 3 W hs (by omega) hm (rUp_le n _ hn (by omega)))
        · have hm : rq 3 (neg && decide (0 < n)) (n * 10 ^ k) (10 ^ s) = n / 10 ^ (s - k) := by
            have := rq_ceil (neg && decide (0 < n)) n k (s - k)
            rw [hks] at this
            rw [this, hb]; rfl
          refine ceil_law_of neg n s k (neg && decide (0 < n) && decide (0 < n / 10 ^ (s - k))) (n / 10 ^ (s - k)) k w hs hn
            (fun W hW => fixCeil_ok neg n s k _ (n / 10 ^ (s - k)) k W hs hn (by omega) (fun W' hW' => ceil_nat_down _ n s W' hs hn k (by omega) hb (pow_at hp _ (by omega) (below_by hW hW'))))
            (fun W => gvTo_round_nat neg n s hn (n / 10 ^ (s - k)) k 3 W hs (by omega) hm (by have := div_le10 n (s - k) hn (by omega); omega))
end Go.Proofs.YthkmgjkajllemaaDoor.Spec

/- The law FnFixRescale answers true for every decimal and every scale. -/
namespace Go.Proofs.YthkmgjkajllemaaDoor.Spec
open Go.RowKit Go.Proofs.YthkmgjkajllemaaDoorW.PrintWords Go.Proofs.YthkmgjkajllemaaDoor.Num Go.Proofs.YthkmgjkajllemaaDoor.Str Go.Proofs.YthkmgjkajllemaaDoor.Nats Go.Proofs.YthkmgjkajllemaaDoor.Make
set_option linter.unusedVariables false
set_option linter.unusedSimpArgs false

set_option maxHeartbeats 4000000 in
set_option maxRecDepth 100000 in
theorem rescale_law_of (neg : Bool) (n s : Nat) (z : Int) (nb : Bool) (m t : Nat) (w : World) (hs : s ≤ 19) (hn : n ≤ 9999999999999999999) (hm : m ≤ 9999999999999999999) (ht : t ≤ 19) (hnb : nb = true → 0 < m)
    (h1 : ∀ W, Below w.heap.size w W → Calls Tryd.prog 37 #[.agg #[.bool neg, .int .u64 n, .int .i64 s], .int .i64 z] W fun e w' => e = .returned (.tuple #[.agg #[.bool nb, .int .u64 m, .int .i64 t], .int .i64 0]) ∧ Below W.heap.size W w')
    (h2 : ∀ W, Calls Tryd.prog 38 #[.agg #[.bool neg, .int .u64 n, .int .i64 s], .int .i64 z] W fun e w' => ∃ u, e = .returned (.agg #[.bool nb, u, .int .i64 (-(t : Int))]) ∧ IsNew w' W.heap.size u m ∧ Below W.heap.size W w') :
    Calls Tryd.prog 8 #[.agg #[.bool neg, .int .u64 n, .int .i64 s], .int .i64 z] w fun e w' => e = .returned (.bool true) ∧ Below w.heap.size w w' := by
  have HI := Lib.hid (fun W => fixIs_ok neg n s W hn hs)
  have H1 := Lib.hid h1
  have H2 := Lib.hid h2
  have HSm := Lib.hid (fun u b0 W h1 h2 => fixSame_true nb m t b0 u W hm ht hnb h1 h2)
  rw [fz_neg, show (nb && decide (0 < m)) = nb by cases nb <;> simp; exact hnb rfl] at HSm
  have HS : Hid (St w (w.alloc (.cells #[.bool neg, .int .u64 n, .int .i64 s] 32)) [(w.heap.size, 0, .bool neg), (w.heap.size, 1, .int .u64 n), (w.heap.size, 2, .int .i64 s)] w.heap.size 0) :=
    ⟨Cells.box3 (Cells.nil _) rfl _ _ _ _, fun o ho => absurd ho (by omega), by simp, (Below.refl _ _).alloc (Nat.le_refl _) _⟩
  clear hs hn h1 h2 hm ht hnb
  go_enter Tryd.func8, Tryd.ntmps8
  go_wp2_with (first | (go_at_call 37; go_must (refine (H1.out _ HS.out.below).mono ?_); rintro e w2 ⟨rfl, hb⟩; have HS2 := Lib.hid (HS.out.call hb); have HO3 := Lib.hid (below_at (Below.refl w2.heap.size w2) (.cells #[.bool nb, .int .u64 m, .int .i64 t] 32)); have HS3 := Lib.hid (HS2.out.call HO3.out); have HW3 : Hid (St w (w2.alloc (.cells #[.bool nb, .int .u64 m, .int .i64 t] 32)) [(w2.heap.size, 0, .bool nb), (w2.heap.size, 1, .int .u64 m), (w2.heap.size, 2, .int .i64 t)] w2.heap.size 0) := Lib.hid ⟨Cells.box3 (Cells.nil _) rfl _ _ _ _, fun o ho => absurd ho (by omega), by simp, HS3.out.below⟩; clear hb))
  obtain ⟨W, hW⟩ : ∃ W, w2.alloc (.cells #[.bool nb, .int .u64 m, .int .i64 t] 32) = W := ⟨_, rfl⟩
  obtain ⟨b2, hb2⟩ : ∃ b2, w2.heap.size = b2 := ⟨_, rfl⟩
  rw [hW] at HS3 HW3 ⊢
  rw [hb2] at HW3 ⊢
  clear hW hb2 HS HS2 HO3
  have HSD := Lib.hid (HS3.out.call (below_drew (Below.refl _ _)))
  have HWD := Lib.hid (HW3.out.call (below_drew (Below.refl _ _)))
  clear HS3 HW3
  first | (go_region_held3 (fun W' => W'.cell? ⟨w.heap.size, 0, none⟩ = some (.bool neg) ∧ W'.cell? ⟨w.heap.size, 1, none⟩ = some (.int .u64 n) ∧ W'.cell? ⟨w.heap.size, 2, none⟩ = some (.int .i64 s) ∧ W'.cell? ⟨b2, 0, none⟩ = some (.bool nb) ∧ W'.cell? ⟨b2, 1, none⟩ = some (.int .u64 m) ∧ W'.cell? ⟨b2, 2, none⟩ = some (.int .i64 t))
    (first | exact ⟨HS6.out.cells.1, HS6.out.cells.2.1, HS6.out.cells.2.2.1, HW6.out.cells.1, HW6.out.cells.2.1, HW6.out.cells.2.2.1⟩ | exact ⟨HS5.out.cells.1, HS5.out.cells.2.1, HS5.out.cells.2.2.1, HW5.out.cells.1, HW5.out.cells.2.1, HW5.out.cells.2.2.1⟩ | exact ⟨HS4.out.cells.1, HS4.out.cells.2.1, HS4.out.cells.2.2.1, HW4.out.cells.1, HW4.out.cells.2.1, HW4.out.cells.2.2.1⟩ | exact ⟨HSD.out.cells.1, HSD.out.cells.2.1, HSD.out.cells.2.2.1, HWD.out.cells.1, HWD.out.cells.2.1, HWD.out.cells.2.2.1⟩ | go_keep)
    (first | (go_at_call 20; (refine (HI.out _).mono ?_); rintro e w4 ⟨rfl, hb⟩; have HS4 := Lib.hid (HSD.out.call hb); have HW4 := Lib.hid (HWD.out.call hb); clear hb) | (go_at_call 38; (refine (H2.out _).mono ?_); rintro e w5 ⟨u, rfl, hn, hb⟩; have HS5 := Lib.hid (HS4.out.call hb); have HW5 := Lib.hid (HW4.out.call hb); have HN5 := Lib.hid hn; have HL5 := Lib.hid hb.size; obtain ⟨A5, c5, rfl⟩ := hn.slice; clear hn hb) | (go_at_call 24; (refine (HSm.out _ _ _ HN5.out HL5.out).mono ?_); rintro e w6 ⟨rfl, hb⟩; have HS6 := Lib.hid (HS5.out.call hb); have HW6 := Lib.hid (HW5.out.call hb); clear hb))) | fail "no"
  all_goals (go_wp2; go_ret; exact ⟨rfl, HS6.out.below⟩)
set_option maxHeartbeats 4000000 in
set_option maxRecDepth 100000 in
theorem rescale_law_bad (neg : Bool) (n : Nat) (y z : Int) (w : World) (h : 9999999999999999999 < n ∨ y < 0 ∨ 19 < y) (he : ErrAt w) :
    Calls Tryd.prog 8 #[.agg #[.bool neg, .int .u64 n, .int .i64 y], .int .i64 z] w fun e w' => e = .returned (.bool true) ∧ Below w.heap.size w w' := by
  have HI : Hid (∀ W, Calls Tryd.prog 20 #[.agg #[.bool neg, .int .u64 n, .int .i64 y]] W fun e w' => e = .returned (.bool false) ∧ Below W.heap.size W w') := by
    refine Lib.hid (fun W => ?_)
    by_cases hn : 9999999999999999999 < n
    · exact fixIs_big neg n y W hn
    · exact fixIs_scale neg n y W (by omega) (by omega)
  have H1 := Lib.hid (fun W hW => fixRescale_bad neg n y z W h hW)
  have HEr := Lib.hid (fun (W : World) (hb : Below w.heap.size w W) => he.below hb)
  have HS : Hid (St w (w.alloc (.cells #[.bool neg, .int .u64 n, .int .i64 y] 32)) [(w.heap.size, 0, .bool neg), (w.heap.size, 1, .int .u64 n), (w.heap.size, 2, .int .i64 y)] w.heap.size 0) :=
    ⟨Cells.box3 (Cells.nil _) rfl _ _ _ _, fun o ho => absurd ho (by omega), by simp, (Below.refl _ _).alloc (Nat.le_refl _) _⟩
  clear h he
  go_enter Tryd.func8, Tryd.ntmps8
  go_wp2_with (first | (go_at_call 37; go_must (refine (H1.out _ (HEr.out _ HS.out.below)).mono ?_); rintro e w2 ⟨rfl, hb⟩; have HS2 := Lib.hid (HS.out.call hb); have HO3 := Lib.hid (below_at (Below.refl w2.heap.size w2) (.cells #[.bool false, .int .u64 0, .int .i64 0] 32)); have HS3 := Lib.hid (HS2.out.call HO3.out); clear hb))
  obtain ⟨W, hW⟩ : ∃ W, w2.alloc (.cells #[.bool false, .int .u64 0, .int .i64 0] 32) = W := ⟨_, rfl⟩
  obtain ⟨b2, hb2⟩ : ∃ b2, w2.heap.size = b2 := ⟨_, rfl⟩
  rw [hW] at HS3 ⊢
  rw [hb2]
  clear hW hb2 HS HS2 HO3
  have HSD := Lib.hid (HS3.out.call (below_drew (Below.refl _ _)))
  clear HS3
  refine wp_region_held_drew (S := fun W' => W'.cell? ⟨w.heap.size, 0, none⟩ = some (.bool neg) ∧ W'.cell? ⟨w.heap.size, 1, none⟩ = some (.int .u64 n) ∧ W'.cell? ⟨w.heap.size, 2, none⟩ = some (.int .i64 y)) (by kernel_rfl) ?s0 (fun hHeld => ?r)
  case s0 => exact ⟨HSD.out.cells.1, HSD.out.cells.2.1, HSD.out.cells.2.2.1⟩
  case r =>
    refine wpAnyH_take (i := 0) (v := ?v0) rfl (by kernel_rfl) (by decide +kernel) (by decide +kernel) (fun _ _ _ h => h) (Or.inl ⟨by rfl, ?y0⟩) (by assumption) ?r0
    case y0 => (intro w0 hSw; (try dsimp only at hSw); (try obtain ⟨p0, p1, p2⟩ := hSw); go_simp; (try with_reducible rfl))
    try simp only [List.getElem_toArray, List.getElem_cons_zero, List.getElem_cons_succ, Act.put, List.setIfInBounds_toArray, List.set_cons_zero, List.set_cons_succ]
    refine wpAnyH_ready (rs := [1]) (by kernel_rfl) (by simp) ?_
    refine AllReadyH.cons rfl (fun K hK => ?_) AllReadyH.nil
    go_simp
    refine (HI.out _).mono ?_
    rintro e w4 ⟨rfl, hb⟩
    have HS4 := Lib.hid (HSD.out.call hb)
    clear hb
    go_wp2_with fail
    refine hK.out _ _ ⟨HS4.out.cells.1, HS4.out.cells.2.1, HS4.out.cells.2.2.1⟩ (fun hHeld => ?_)
    clear hK K
    try simp only [List.getElem_toArray, List.getElem_cons_zero, List.getElem_cons_succ, Act.put, List.setIfInBounds_toArray, List.set_cons_zero, List.set_cons_succ]
    refine wpAnyH_take (i := 2) (v := ?v2) rfl (by kernel_rfl) (by decide +kernel) (by decide +kernel) (fun _ _ _ h => h) (Or.inl ⟨by rfl, ?y2⟩) (by assumption) ?r2
    case y2 => (intro w0 hSw; (try dsimp only at hSw); (try obtain ⟨p0, p1, p2⟩ := hSw); go_simp; (try with_reducible rfl))
    try simp only [List.getElem_toArray, List.getElem_cons_zero, List.getElem_cons_succ, Act.put, List.setIfInBounds_toArray, List.set_cons_zero, List.set_cons_succ]
    refine wpAnyH_take (i := 3) (v := ?v3) rfl (by kernel_rfl) (by decide +kernel) (by decide +kernel) (fun _ _ _ h => h) (Or.inl ⟨by rfl, ?y3⟩) (by assumption) ?r3
    case y3 => (intro w0 hSw; (try dsimp only at hSw); (try obtain ⟨p0, p1, p2⟩ := hSw); go_simp; (try with_reducible rfl))
    try simp only [List.getElem_toArray, List.getElem_cons_zero, List.getElem_cons_succ, Act.put, List.setIfInBounds_toArray, List.set_cons_zero, List.set_cons_succ]
    refine wpAnyH_take (i := 4) (v := undef) rfl (by kernel_rfl) (by decide +kernel) (by decide +kernel) (fun _ _ _ h => h) (Or.inr ⟨by rfl, rfl⟩) (by assumption) ?r4
    try simp only [List.getElem_toArray, List.getElem_cons_zero, List.getElem_cons_succ, Act.put, List.setIfInBounds_toArray, List.set_cons_zero, List.set_cons_succ]
    refine wpAnyH_take (i := 5) (v := undef) rfl (by kernel_rfl) (by decide +kernel) (by decide +kernel) (fun _ _ _ h => h) (Or.inr ⟨by rfl, rfl⟩) (by assumption) ?r5
    try simp only [List.getElem_toArray, List.getElem_cons_zero, List.getElem_cons_succ, Act.put, List.setIfInBounds_toArray, List.set_cons_zero, List.set_cons_succ]
    refine wpAnyH_take (i := 6) (v := undef) rfl (by kernel_rfl) (by decide +kernel) (by decide +kernel) (fun _ _ _ h => h) (Or.inr ⟨by rfl, rfl⟩) (by assumption) ?r6
    try simp only [List.getElem_toArray, List.getElem_cons_zero, List.getElem_cons_succ, Act.put, List.setIfInBounds_toArray, List.set_cons_zero, List.set_cons_succ]
    refine wpAnyH_take (i := 7) (v := undef) rfl (by kernel_rfl) (by decide +kernel) (by decide +kernel) (fun _ _ _ h => h) (Or.inr ⟨by rfl, rfl⟩) (by assumption) ?r7
    try simp only [List.getElem_toArray, List.getElem_cons_zero, List.getElem_cons_succ, Act.put, List.setIfInBounds_toArray, List.set_cons_zero, List.set_cons_succ]
    refine wpAnyH_take (i := 8) (v := undef) rfl (by kernel_rfl) (by decide +kernel) (by decide +kernel) (fun _ _ _ h => h) (Or.inr ⟨by rfl, rfl⟩) (by assumption) ?r8
    try simp only [List.getElem_toArray, List.getElem_cons_zero, List.getElem_cons_succ, Act.put, List.setIfInBounds_toArray, List.set_cons_zero, List.set_cons_succ]
    refine wpAnyH_take (i := 9) (v := undef) rfl (by kernel_rfl) (by decide +kernel) (by decide +kernel) (fun _ _ _ h => h) (Or.inr ⟨by rfl, rfl⟩) (by assumption) ?r9
    try simp only [List.getElem_toArray, List.getElem_cons_zero, List.getElem_cons_succ, Act.put, List.setIfInBounds_toArray, List.set_cons_zero, List.set_cons_succ]
    refine wpAnyH_take (i := 10) (v := undef) rfl (by kernel_rfl) (by decide +kernel) (by decide +kernel) (fun _ _ _ h => h) (Or.inr ⟨by rfl, rfl⟩) (by assumption) ?r10
    try simp only [List.getElem_toArray, List.getElem_cons_zero, List.getElem_cons_succ, Act.put, List.setIfInBounds_toArray, List.set_cons_zero, List.set_cons_succ]
    refine wpAnyH_take (i := 11) (v := undef) rfl (by kernel_rfl) (by decide +kernel) (by decide +kernel) (fun _ _ _ h => h) (Or.inr ⟨by rfl, rfl⟩) (by assumption) ?r11
    try simp only [List.getElem_toArray, List.getElem_cons_zero, List.getElem_cons_succ, Act.put, List.setIfInBounds_toArray, List.set_cons_zero, List.set_cons_succ]
    refine wpAnyH_take (i := 12) (v := undef) rfl (by kernel_rfl) (by decide +kernel) (by decide +kernel) (fun _ _ _ h => h) (Or.inr ⟨by rfl, rfl⟩) (by assumption) ?r12
    try simp only [List.getElem_toArray, List.getElem_cons_zero, List.getElem_cons_succ, Act.put, List.setIfInBounds_toArray, List.set_cons_zero, List.set_cons_succ]
    refine wpAnyH_take (i := 13) (v := ?v13) rfl (by kernel_rfl) (by decide +kernel) (by decide +kernel) (fun _ _ _ h => h) (Or.inl ⟨by rfl, ?y13⟩) (by assumption) ?r13
    case y13 => (intro w0 hSw; (try dsimp only at hSw); (try obtain ⟨p0, p1, p2⟩ := hSw); go_simp; (try with_reducible rfl))
    try simp only [List.getElem_toArray, List.getElem_cons_zero, List.getElem_cons_succ, Act.put, List.setIfInBounds_toArray, List.set_cons_zero, List.set_cons_succ]
    refine wpAnyH_take (i := 14) (v := ?v14) rfl (by kernel_rfl) (by decide +kernel) (by decide +kernel) (fun _ _ _ h => h) (Or.inl ⟨by rfl, ?y14⟩) (by assumption) ?r14
    case y14 => (intro w0 hSw; (try dsimp only at hSw); (try obtain ⟨p0, p1, p2⟩ := hSw); go_simp; (try with_reducible rfl))
    try simp only [List.getElem_toArray, List.getElem_cons_zero, List.getElem_cons_succ, Act.put, List.setIfInBounds_toArray, List.set_cons_zero, List.set_cons_succ]
    refine wpAnyH_done (by kernel_rfl) ?_ _
    go_wp2
    go_ret
    exact ⟨rfl, HS4.out.below⟩
theorem rEven_le (n d : Nat) (hn : n ≤ 9999999999999999999) (hd : 1 ≤ d) : rEven n d ≤ 9999999999999999999 := by
  have := div_le10 n d hn hd
  unfold rEven
  split <;> omega
/-- The law. -/
theorem rescale_law (neg : Bool) (n : Nat) (y z : Int) (w : World) (hp : Fint.PowAt w) (he : ErrAt w) (hz0 : -9223372036854775808 ≤ z) (hz1 : z ≤ 9223372036854775807) :
    Calls Tryd.prog 8 #[.agg #[.bool neg, .int .u64 n, .int .i64 y], .int .i64 z] w fun e w' => e = .returned (.bool true) ∧ Below w.heap.size w w' := by
  by_cases h : 9999999999999999999 < n ∨ y < 0 ∨ 19 < y
  · exact rescale_law_bad neg n y z w h he
  · obtain ⟨s, rfl⟩ := Int.eq_ofNat_of_zero_le (show 0 ≤ y by omega)
    have hs : s ≤ 19 := by omega
    have hn : n ≤ 9999999999999999999 := by omega
    have hg19 : Fint.dg n ≤ 19 := by
      rw [Fint.dg_le]
      show (n : Int) < (10 : Int) ^ 19
      omega
    have hh0 : 0 < w.heap.size := World.block_lt_of_cell? w _ (hp 0 (by omega))
    clear h
    by_cases hz : z < 0
    · by_cases h0 : s = 0
      · refine rescale_law_of neg n s z (neg && decide (0 < n)) n s w hs hn hn hs (by simp)
          (fun W hW => fixRescale_ok neg n s z _ n s W hs hn hs (fun W' hW' => rescale_round _ n s z _ n s W' hs hz0 hz1 (by omega) (fun V hV => round95_stay_neg _ n s V hs z hz hz0 h0)))
          (fun W => ?_)
        have g := gvScaled_pad_neg neg n s 0 hn z W h0 hz hz0 rfl
        subst h0
        simpa using g
      · have hm : rq 5 (neg && decide (0 < n)) (n * 10 ^ 0) (10 ^ s) = rEven n (s - 0) := by
          have := rq_even (neg && decide (0 < n)) n 0 s (by omega)
          rw [Nat.zero_add] at this
          exact this
        refine rescale_law_of neg n s z (neg && decide (0 < n) && decide (0 < rEven n (s - 0))) (rEven n (s - 0)) 0 w hs hn (rEven_le n _ hn (by omega)) (by omega) (by simp)
          (fun W hW => fixRescale_ok neg n s z _ (rEven n (s - 0)) 0 W hs hn (by omega) (fun W' hW' => rescale_round _ n s z _ _ 0 W' hs hz0 hz1 (by omega) (fun V hV => round95_neg _ n s V hs hn z hz hz0 (by omega) (pow_at hp _ (by omega) (below_by (below_by hW hW') hV)))))
          (fun W => ?_)
        have g := gvScaled_round_neg neg n s hn (rEven n (s - 0)) z W hs hz hz0 (by omega) hm
        simpa using g
    · obtain ⟨k, rfl⟩ := Int.eq_ofNat_of_zero_le (show 0 ≤ z by omega)
      by_cases hk : s ≤ k
      · obtain ⟨M, hM⟩ : ∃ M, M = 19 - Fint.dg n + s := ⟨_, rfl⟩
        obtain ⟨t, ht⟩ : ∃ t, t = min (min k 19) M := ⟨_, rfl⟩
        have hst : s ≤ t := by omega
        have hroom := dg_room n (Fint.dg n) (t - s) rfl (by omega)
        have hc : ∀ W, Calls Tryd.prog 38 #[.agg #[.bool neg, .int .u64 n, .int .i64 s], .int .i64 (k : Int)] W fun e w' => ∃ u, e = .returned (.agg #[.bool (neg && decide (0 < n)), u, .int .i64 (-(t : Int))]) ∧ IsNew w' W.heap.size u (n * 10 ^ (t - s)) ∧ Below W.heap.size W w' := fun W =>
          gvScaled_pad_nat neg n s t hn k W hs hk (by omega) (by omega)
        have hk1 : (if (19 : Int) < (k : Int) then (19 : Int) else (k : Int)) = ((min k 19 : Nat) : Int) := by split <;> omega
        have hk2 : (if M < min k 19 then (M : Int) else ((min k 19 : Nat) : Int)) = (t : Int) := by split <;> omega
        have hpos : decide (0 < n * 10 ^ (t - s)) = decide (0 < n) := by
          have h10 : 0 < 10 ^ (t - s) := Nat.pow_pos (by decide)
          by_cases h : 0 < n
          · rw [decide_eq_true h, decide_eq_true (Nat.mul_pos h h10)]
          · obtain rfl : n = 0 := by omega
            rw [Nat.zero_mul]
        have hpow : ∀ {V : World}, Below w.heap.size w V → Fint.PowAt V := fun hV i hi => (hV.cell (p := ⟨0, i, none⟩) hh0).trans (hp i hi)
        refine rescale_law_of neg n s k (neg && decide (0 < n)) (n * 10 ^ (t - s)) t w hs hn hroom (by omega) (fun h => Nat.mul_pos (of_decide_eq_true (Bool.and_eq_true_iff.1 h).2) (Nat.pow_pos (by decide)))
          (fun W hW => fixRescale_ok neg n s k _ (n * 10 ^ (t - s)) t W hs hn (by omega) (fun W' hW' => ?_)) hc
        by_cases hsk : s < k
        · refine rescale_pad _ n s k _ _ t W' hs hz0 hz1 (by omega) (fun V hV => ?_)
          have hV0 := below_by (below_by hW hW') hV
          by_cases hts : t = s
          · have g := pad_stay (neg && decide (0 < n)) n s (min k 19) M t (Fint.dg n) k V hs hn (hpow hV0) (Nat.lt_of_lt_of_le hh0 hV0.size) rfl hg19 hM hz0 hz1 hk1 hk2 (by omega)
            rw [hts, Nat.sub_self, Nat.pow_zero, Nat.mul_one]
            exact g
          · have g := pad_go (neg && decide (0 < n)) n s (min k 19) M t (Fint.dg n) k V hs hn (hpow hV0) (Nat.lt_of_lt_of_le hh0 hV0.size) rfl hg19 hM hz0 hz1 hk1 hk2 (by omega)
            rw [hpos, show (neg && decide (0 < n) && decide (0 < n)) = (neg && decide (0 < n)) by cases neg <;> simp] at g
            exact g
        · obtain rfl : s = k := by omega
          obtain rfl : t = s := by omega
          rw [Nat.sub_self, Nat.pow_zero, Nat.mul_one]
          exact rescale_round _ n t t _ n t W' hs hz0 hz1 (by omega) (fun V hV => round95_stay_nat _ n t V hs t (Nat.le_refl _))
      · have hks : k + (s - k) = s := by omega
        have hm : rq 5 (neg && decide (0 < n)) (n * 10 ^ k) (10 ^ s) = rEven n (s - k) := by
          have := rq_even (neg && decide (0 < n)) n k (s - k) (by omega)
          rw [hks] at this
          exact this
        exact rescale_law_of neg n s k (neg && decide (0 < n) && decide (0 < rEven n (s - k))) (rEven n (s - k)) k w hs hn (rEven_le n _ hn (by omega)) (by omega) (by simp)
          (fun W hW => fixRescale_ok neg n s k _ (rEven n (s - k)) k W hs hn (by omega) (fun W' hW' => rescale_round _ n s k _ _ k W' hs hz0 hz1 (by omega) (fun V hV => round95_nat _ n s V hs hn k (by omega) (pow_at hp _ (by omega) (below_by (below_by hW hW') hV)))))
          (fun W => gvScaled_round_nat neg n s hn (rEven n (s - k)) k W hs (by omega) hm)
end Go.Proofs.YthkmgjkajllemaaDoor.Spec

/- What the rows' lists of package-level variables give the walks: the table of powers of ten lies in memory. -/
namespace Go.Proofs.YthkmgjkajllemaaDoor.Laid
open Go.RowKit
theorem own : ownKnob Tryd.prog.godebug = none := by kernel_rfl
theorem laidOut : laidOutB Tryd.prog = true := by kernel_rfl
theorem gPow : Tryd.prog.globalNamed "given.example/pub-alexandrine/pub/govalues.pow10" = some 0 := by kernel_rfl
theorem gPowType : (Tryd.prog.globals[0]?).map (·.type) = some 112 := by kernel_rfl
theorem cells112 : Tryd.prog.cellsOf 112 = 20 := by kernel_rfl
theorem cells72 : Tryd.prog.cellsOf 72 = 1 := by kernel_rfl

/-- The table's numbers. -/
def zs : List Int := [1, 10, 100, 1000, 10000, 100000, 1000000, 10000000, 100000000, 1000000000, 10000000000, 100000000000, 1000000000000, 10000000000000, 100000000000000, 1000000000000000, 10000000000000000, 100000000000000000, 1000000000000000000, 10000000000000000000]
theorem zs_at (i : Nat) (h : i < 20) : zs.getD i 0 = Fint.p10 i :=
  (show ∀ i : Fin 20, zs.getD i.1 0 = Fint.p10 i.1 by unfold Fint.p10; decide +kernel) ⟨i, h⟩

/-- What the row's list gives the walks. -/
theorem powAt_of_head {W : World} {rest : List (String × DataW Unit)} (h : laidMet Tryd.prog (("given.example/pub-alexandrine/pub/govalues.pow10", Rows.laid_given_example_pub_alexandrine_pub_govalues_pow10) :: rest) W) : Fint.PowAt W := by
  have hT : Lib.TabIs Tryd.prog W "given.example/pub-alexandrine/pub/govalues.pow10" .u64 zs := Lib.tabIs_of_head gPow gPowType Tryd.underlying112 Tryd.underlying72 cells72 cells112 h
  intro i hi
  rw [← zs_at i hi]
  exact hT.cell gPow i hi

end Go.Proofs.YthkmgjkajllemaaDoor.Laid

/- What the rows' lists of package-level variables give the walks: the package's two errors are none that is nil. -/
namespace Go.Proofs.YthkmgjkajllemaaDoor.LaidErr
open Go.RowKit

theorem star : "*errors.errorString" = "*" ++ "errors.errorString" := rfl
theorem row140 (u : TypeId) (h : Tryd.prog.typeName? 3 u = some "*errors.errorString") : u = 140 :=
  typeName_ptr_named (nm := "errors.errorString") (by rw [← star]; kernel_rfl) (by kernel_rfl) (by decide) u (by rw [← star]; exact h)
theorem gRange : Tryd.prog.globalNamed "given.example/pub-alexandrine/pub/govalues.errScaleRange" = some 2 := by kernel_rfl
theorem gRangeType : (Tryd.prog.globals[2]?).map (·.type) = some 76 := by kernel_rfl
theorem gOver : Tryd.prog.globalNamed "given.example/pub-alexandrine/pub/govalues.errDecimalOverflow" = some 3 := by kernel_rfl
theorem gOverType : (Tryd.prog.globals[3]?).map (·.type) = some 76 := by kernel_rfl
theorem cells142 : Tryd.prog.cellsOf 142 = 1 := by kernel_rfl
theorem cells9 : Tryd.prog.cellsOf 9 = 1 := by kernel_rfl

theorem errAt_of_head {W : World} {rest : List (String × DataW Unit)}
    (h : laidMet Tryd.prog (("given.example/pub-alexandrine/pub/govalues.errDecimalOverflow", Rows.laid_given_example_pub_alexandrine_pub_govalues_errDecimalOverflow) :: ("given.example/pub-alexandrine/pub/govalues.errScaleRange", Rows.laid_given_example_pub_alexandrine_pub_govalues_errScaleRange) :: rest) W) : Make.ErrAt W := by
  obtain ⟨a0, s0, hv0, _, _, _⟩ := laid_sentinel h gOver gOverType Tryd.underlying76 row140 Tryd.underlying140 Tryd.underlying142 rfl rfl Tryd.underlying9 cells142 cells9
  obtain ⟨a1, s1, hv1, _, _, _⟩ := laid_sentinel h.tail gRange gRangeType Tryd.underlying76 row140 Tryd.underlying140 Tryd.underlying142 rfl rfl Tryd.underlying9 cells142 cells9
  have h3 := World.var?_cell gOver hv0 0
  have h2 := World.var?_cell gRange hv1 0
  exact ⟨⟨_, _, h2⟩, ⟨_, _, h3⟩, World.block_lt_of_cell? W _ h3⟩
end Go.Proofs.YthkmgjkajllemaaDoor.LaidErr

/- A decimal of govalues that comes in as data: three parts; and what the rows that list the errors and the powers of ten give the walks. -/
namespace Go.Proofs.YthkmgjkajllemaaDoor.FixArg
open Go.ChangeShapes Go.WideShapes Go.ChangeAt Go.RowKit Go.Joins
set_option linter.unusedVariables false

theorem cells32 : Tryd.prog.cellsOf 32 = 3 := by kernel_rfl
set_option maxRecDepth 100000 in
theorem open_fix {H : Type} {enc : TypeId × Value → H} {W : World} {base : Nat} {sp : Nat → Bool} {hd : Bool} {r : Reach} {b0 : Nat} {v : Value} {d : DataW H} {p : List MemPlace}
    (hv : Value.okWide Tryd.prog W r b0 32 v) (h : DataW.Trod enc Tryd.prog W base sp hd 32 v d p) :
    ∃ (neg : Bool) (n : Nat) (z : Int), v = .agg #[.bool neg, .int .u64 n, .int .i64 z] ∧ d = .agg [.lit (.bool neg), .lit (.int .u64 n), .lit (.int .i64 z)] ∧ p = [] ∧ n < 18446744073709551616 ∧ (Lit.int .i64 z).wf = true := by
  obtain ⟨c0, c1, c2, y0, y1, y2, m, rfl, rfl, rfl, hy0, hy1, hy2⟩ := open_agg3 Tryd.underlying32 (by kernel_rfl) cells32 hv h
  obtain ⟨x, e0, rfl⟩ := DataW.trod_bool Tryd.underlying4 hy0
  obtain ⟨y, e1, rfl, wy⟩ := DataW.trod_int Tryd.underlying22 hy1
  obtain ⟨z, e2, rfl, wz⟩ := DataW.trod_int Tryd.underlying3 hy2
  simp at e0 e1 e2
  subst e0 e1 e2
  have hy := bounds_u64 wy
  obtain ⟨n, rfl⟩ := Int.eq_ofNat_of_zero_le hy.1
  exact ⟨x, n, z, rfl, rfl, rfl, by have := hy.2; omega, wz⟩
set_option maxRecDepth 100000 in
theorem shut_fix {H : Type} {enc : TypeId × Value → H} (W' : World) (b : Nat) (sp : Nat → Bool) (hd : Bool) (neg : Bool) (n : Nat) (z : Int) (hn : n < 18446744073709551616) (wz : (Lit.int .i64 z).wf = true) :
    DataW.Trod enc Tryd.prog W' b sp hd 32 (.agg #[.bool neg, .int .u64 n, .int .i64 z]) (.agg [.lit (.bool neg), .lit (.int .u64 n), .lit (.int .i64 z)]) [] := by
  have wn : (Lit.int .u64 (n : Int)).wf = true := by go_wf
  simpa using shut_agg3 (enc := enc) (w := W') (base := b) (spare := sp) (held := hd) (y0 := (.lit (.bool neg), [])) (y1 := (.lit (.int .u64 n), [])) (y2 := (.lit (.int .i64 z), [])) Tryd.underlying32 (by kernel_rfl) cells32 ⟨1, by simp [DataW.trod, Tryd.underlying4]⟩ ⟨1, by simp [DataW.trod, Tryd.underlying22, wn]⟩ ⟨1, by simp [DataW.trod, Tryd.underlying3, wz]⟩

/-- What a row that lists the two errors and the table gives. -/
theorem laid_both {W : World} (h : laidMet Tryd.prog Rows.fnFixUnitsRow.laid W) : Make.ErrAt W ∧ Fint.PowAt W :=
  ⟨LaidErr.errAt_of_head h, Laid.powAt_of_head h.tail.tail⟩

/-- What lists of three variables read as. -/
theorem three_vars {H : Type} {enc : TypeId × Value → H} {P : Program} {W : World} {sp : Nat → Bool} {gs : List (DataW H)} {q : List MemPlace} {a b c : String} (hV : DataW.TrodVars enc P W sp [a, b, c] gs q) : ∃ g1 g2 g3, gs = [g1, g2, g3] := by
  obtain _ | ⟨g1, gs⟩ := gs
  · exact hV.elim
  · obtain ⟨_, _, _, _, _, _, _, _, _, _, hs, _⟩ := hV
    obtain _ | ⟨g2, gs⟩ := gs
    · exact hs.elim
    · obtain ⟨_, _, _, _, _, _, _, _, _, _, hs, _⟩ := hs
      obtain _ | ⟨g3, gs⟩ := gs
      · exact hs.elim
      · obtain ⟨_, _, _, _, _, _, _, _, _, _, hs, _⟩ := hs
        obtain _ | ⟨g4, gs⟩ := gs
        · exact ⟨g1, g2, g3, rfl⟩
        · exact hs.elim
end Go.Proofs.YthkmgjkajllemaaDoor.FixArg

namespace Go.Proofs.YthkmgjkajllemaaDoor.fnFixRescale
open Go.ChangeShapes Go.WideShapes Go.ChangeAt Go.RowKit
set_option linter.unusedVariables false

open FixArg

theorem own : ownKnob Tryd.prog.godebug = none := by kernel_rfl
theorem laidOut : laidOutB Tryd.prog = true := by kernel_rfl

/-- The door's own heap meets the condition. -/
theorem door_met (os : Os) (args : Array Value) : laidMetH Tryd.prog Rows.fnFixRescaleRow.laid ((World.doorLaid Tryd.prog 166 os).forCall (fun _ _ => 0) ⟨#[], args, []⟩).memory :=
  laidMetH_of_parts3 (fuel := 8) (laidMet_of_run' 8 (by kernel_rfl) (by kernel_rfl)) (by kernel_rfl) (by kernel_rfl)

set_option maxRecDepth 100000 in
theorem lifted (os : Os) (started : os.Started) (H : Type) (enc : TypeId × Value → H) :
    ReturnsInHanded {} Tryd.checked os 8 .any (fun w args => (Rows.fnFixRescaleSpec.pre enc Tryd.prog Tryd.f8 [] false w args ∧ laidMetH Tryd.prog Rows.fnFixRescaleRow.laid w) ∧ sizedMet enc Tryd.prog Tryd.f8 (OpenSpec.ofChange Rows.fnFixRescaleSpec) false w args)
      (Rows.fnFixRescaleSpec.post enc Tryd.prog Tryd.f8 false true false false) := by
  refine returnsInHanded_of_change_and (C := Tryd.checked) (X := fun w _ => laidMetH Tryd.prog Rows.fnFixRescaleRow.laid w) (fun _ _ _ hh h => h.of_heap hh) own started (by kernel_rfl) Tryd.func8
    (ChangeSpec.witness_shaped (enc := enc) (C := Tryd.checked) (os := os) (X := fun w _ => laidMetH Tryd.prog Rows.fnFixRescaleRow.laid w) false (World.doorLaid Tryd.prog 166 os) #[.agg #[.bool false, .int .u64 0, .int .i64 0], .int .i64 0] 8 rfl (World.shaped_of_RefB (by kernel_rfl) (by kernel_rfl)) (by kernel_rfl) (by kernel_rfl) (by kernel_rfl) (door_met os _)) ?_
  intro W base args ds gs before hval0 hW _ _ hL _
  have hval : ∀ (j : Nat) t v, Tryd.f8.params[j]? = some t → args[j]? = some v → Value.okWide Tryd.prog W .any base t v := hval0
  have hW' := hW
  obtain ⟨p, q, hA0, hV, rfl, hfz, hnd⟩ := hW
  have hA : DataW.TrodAll enc Tryd.prog W 0 (fun _ => true) true Tryd.f8.params.toList args.toList ds p := hA0
  rw [Tryd.params8] at hA hval
  obtain ⟨v0, vs0, d0, ds0, p0, q0, hargs, rfl, rfl, h0, r0⟩ := trodAll_cons hA
  obtain ⟨v1, vs1, d1, ds1, p1, q1, rfl, rfl, rfl, h1, r1⟩ := trodAll_cons r0
  obtain ⟨rfl, rfl, rfl⟩ := trodAll_nil r1
  obtain rfl : args = #[v0, v1] := by cases args; simp_all
  obtain ⟨neg, n, y, rfl, rfl, rfl, hn, wy⟩ := open_fix (hval 0 32 v0 rfl rfl) h0
  obtain ⟨z, rfl, rfl, rfl, wz⟩ := open_int Tryd.underlying3 (hval 1 3 v1 rfl rfl) h1
  obtain ⟨hE, hP⟩ := laid_both (W := W) (by
    have h := hL
    rw [MakeChecks.laidMetH_plain _ _ _ (by kernel_rfl)] at h
    exact h)
  obtain ⟨g1, g2, g3, hgs⟩ := three_vars hV
  subst hgs
  clear hA0 hval0
  refine (Spec.rescale_law neg n y z W hP hE (bounds_i64 wz).1 (bounds_i64 wz).2).mono fun e W' ⟨he, bel⟩ => ?_
  subst he
  exact ⟨_, rfl, _, _, _, [], _, _, hW', trodAll_mk1 (shut_bool Tryd.underlying4 _), trodAll_cons_mk (shut_fix _ _ _ _ neg n y hn wy) (trodAll_cons_mk (shut_int Tryd.underlying3 wz) trodAll_mk0), Below.trodVars laidOut bel (by kernel_rfl) hV, bel.frame _, fun h => by cases h⟩

theorem said : Rows.FnFixRescaleSaid :=
  OpenClaim.holds_of_wide 8 Tryd.f8 rfl rfl rfl rfl rfl rfl rfl ⟨rfl, rfl, rfl, rfl, rfl⟩ rfl rfl rfl rfl rfl (by kernel_rfl) Tryd.func8 (by kernel_rfl)
    (of_decide_eq_true (by kernel_rfl)) (by unfold Func.isWrapper; first | (rw [if_pos (by decide +kernel)]; kernel_rfl) | (rw [if_neg (by decide +kernel)]; exact ⟨rfl, rfl⟩))
    (fun os started H enc _ => lifted os started H enc)

theorem plain (f : FuncId) (fn : Func) (hf : Tryd.pinned.checked.prog.funcNamed "given.example/pub-alexandrine/laws.FnFixRescale" = some f) (hfn : Tryd.pinned.checked.prog.funcs[f]? = some fn) :
    true = Tryd.pinned.checked.prog.looks [] ∧ ∀ (j : Nat) t, fn.params[j]? = some t → Tryd.pinned.checked.prog.wantsStandIn t = false := by
  obtain rfl : f = 8 := Option.some.inj ((show Tryd.prog.funcNamed "given.example/pub-alexandrine/laws.FnFixRescale" = some 8 by kernel_rfl).symm.trans hf) |>.symm
  obtain rfl : fn = Tryd.f8 := (Option.some.inj (Tryd.func8.symm.trans hfn)).symm
  refine ⟨by kernel_rfl, fun j t ht => ?_⟩
  rw [Tryd.params8] at ht
  have hm : t ∈ [32, 3] := by simpa using Array.mem_of_getElem? ht
  have hall : ([32, 3].all fun u => !Tryd.prog.wantsStandIn u) = true := by kernel_rfl
  exact (show Tryd.prog.wantsStandIn t = false by simpa using List.all_eq_true.1 hall t hm)

theorem card : Rows.FnFixRescaleCardSaid :=
  Claim7.holds_tied_plain_at .later [] _ _ _ _ said (fun _ h => by cases h) (by kernel_rfl) (fun _ h => by cases h) fnFixRescale_row_tie rfl ⟨rfl, rfl⟩ (by kernel_rfl) rfl plain (by kernel_rfl)
end Go.Proofs.YthkmgjkajllemaaDoor.fnFixRescale
