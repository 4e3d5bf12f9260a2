/- FnFixUnits: for every decimal of govalues as parts, the law answers true; the row lists the package's two errors and its table of powers of ten, and the card ties them to the program's text. -/
import Derived.Test.YthkmgjkajllemaaDoorUnA
import Derived.Recover
import Derived.Test.YthkmgjkajllemaaDoorRows
import Derived.WalkKit
import Derived.Outline
import Derived.Lib.Hide
import Derived.BigQuiet
import Derived.Test.YthkmgjkajllemaaDoorPFnFixNewx1
import Derived.Deep.RegionWith
import Derived.ProofKit
import Derived.LaidMore
import Derived.Lib.LaidTab
import Derived.Stop.LaidErr
import Derived.OpenShut
import Derived.OpenVars
import Derived.Lib.SmallJoins
import Derived.Test.YthkmgjkajllemaaDoorCards
import Derived.Test.YthkmgjkajllemaaDoorTie
import Derived.ChangeOld
import Derived.SevenTiedAt
import Derived.Stop.Joined

/- ZzMake and fixed: a decimal of govalues is made of parts that are ones. -/
namespace Go.Proofs.YthkmgjkajllemaaDoor.Spec
open Go.RowKit Go.Proofs.YthkmgjkajllemaaDoorW.PrintWords Go.Proofs.YthkmgjkajllemaaDoor.Make
set_option linter.unusedVariables false
set_option linter.unusedSimpArgs false

theorem zzMake_ok (neg : Bool) (n s : Nat) (w : World) (hs : s ≤ 19) (hn : n ≤ 9999999999999999999) :
    Calls Tryd.prog 84 #[.bool neg, .int .u64 n, .int .i64 s] w fun e w' => e = .returned (.tuple #[.agg #[.bool (neg && decide (0 < n)), .int .i8 s, .int .u64 n], .nilIface]) ∧ Below w.heap.size w w' := by
  have HM := Lib.hid (fun W => newSafe_ok neg n s W hs hn)
  generalize (neg && decide (0 < n)) = b at HM ⊢
  have HS : Hid (St w (w.alloc (.cells #[.bool false, .int .i8 0, .int .u64 0] 74))
      [(w.heap.size, 0, .bool false), (w.heap.size, 1, .int .i8 0), (w.heap.size, 2, .int .u64 0)] w.heap.size 3) :=
    ⟨Cells.box3 (Cells.nil _) rfl _ _ _ _, fun o _ => free_box rfl _ _ _, by simp, (Below.refl _ _).alloc (Nat.le_refl _) _⟩
  clear hs hn
  go_enter Tryd.func84, Tryd.ntmps84
  go_wp2_with (first | (go_at_call 80; go_must (refine (HM.out _).mono ?_); rintro e w2 ⟨rfl, hb⟩; have HS2 := Lib.hid (HS.out.call hb); obtain ⟨d0, d1, d2, -⟩ := HS2.out.cells; have f0 := HS2.out.free 0 (by omega); have f1 := HS2.out.free 1 (by omega); have f2 := HS2.out.free 2 (by omega); have hz := HS2.out.lt; clear hb))
  exact bodyPost_ret (v := .tuple #[.agg #[.bool b, .int .i8 s, .int .u64 n], .nilIface]) (by simp [results, Tryd.results84, go_sem, d0, d1, d2, f0, f1, f2, hz]) rfl ⟨rfl, ((HS2.out.below.setCell (p := ⟨w.heap.size, 0, none⟩) (Nat.le_refl _) _).setCell (p := ⟨w.heap.size, 1, none⟩) (Nat.le_refl _) _).setCell (p := ⟨w.heap.size, 2, none⟩) (Nat.le_refl _) _⟩

set_option maxHeartbeats 1000000 in
theorem fixed_ok (neg : Bool) (n s : Nat) (w : World) (hs : s ≤ 19) (hn : n ≤ 9999999999999999999) :
    Calls Tryd.prog 48 #[.agg #[.bool neg, .int .u64 n, .int .i64 s]] w fun e w' => e = .returned (.tuple #[.agg #[.bool (neg && decide (0 < n)), .int .i8 s, .int .u64 n], .bool true]) ∧ Below w.heap.size w w' := by
  have HM := Lib.hid (fun W => zzMake_ok neg n s W hs hn)
  generalize (neg && decide (0 < n)) = b at HM ⊢
  have HS : Hid (St w ((w.alloc (.cells #[.bool neg, .int .u64 n, .int .i64 s] 32)).alloc (.cells #[.bool false, .int .i8 0, .int .u64 0] 74))
      [(w.heap.size + 1, 0, .bool false), (w.heap.size + 1, 1, .int .i8 0), (w.heap.size + 1, 2, .int .u64 0), (w.heap.size, 0, .bool neg), (w.heap.size, 1, .int .u64 n), (w.heap.size, 2, .int .i64 s)] (w.heap.size + 1) 3) :=
    ⟨Cells.box3 (Cells.box3 (Cells.nil _) rfl _ _ _ _) (by simp) _ _ _ _, fun o _ => free_box (by simp) _ _ _, by simp, ((Below.refl _ _).alloc (Nat.le_refl _) _).alloc (by simp) _⟩
  clear hs hn
  go_enter Tryd.func48, Tryd.ntmps48
  go_wp2_with (first | (go_at_call 84; go_must (refine (HM.out _).mono ?_); rintro e w2 ⟨rfl, hb⟩; have HS2 := Lib.hid (HS.out.call hb); have HL := Lib.hid HS2.out.lt; clear hb))
  have hne : w.heap.size + 1 ≠ w2.heap.size := by have := HL.out; omega
  obtain ⟨W, hW⟩ : ∃ W, w2.alloc (.cells #[.bool b, .int .i8 s, .int .u64 n] 74) = W := ⟨_, rfl⟩
  have HS3 := Lib.hid (HS2.out.call ((Below.refl _ _).alloc (Nat.le_refl _) (.cells #[.bool b, .int .i8 s, .int .u64 n] 74)))
  have HC3 : Hid (Cells (w2.alloc (.cells #[.bool b, .int .i8 s, .int .u64 n] 74)) [(w2.heap.size, 0, .bool b), (w2.heap.size, 1, .int .i8 s), (w2.heap.size, 2, .int .u64 n)]) := Cells.box3 (Cells.nil _) rfl _ _ _ _
  rw [hW] at HS3 HC3 ⊢
  clear hW
  obtain ⟨d0, d1, d2, -⟩ := HS3.out.cells
  have f0 := HS3.out.free 0 (by omega)
  have f1 := HS3.out.free 1 (by omega)
  have f2 := HS3.out.free 2 (by omega)
  have hz := HS3.out.lt
  obtain ⟨k0, k1, k2, -⟩ := HC3.out
  go_region_held3 (fun W' => W'.cell? ⟨w2.heap.size, 0, none⟩ = some (.bool b) ∧ W'.cell? ⟨w2.heap.size, 1, none⟩ = some (.int .i8 s) ∧ W'.cell? ⟨w2.heap.size, 2, none⟩ = some (.int .u64 n)) (go_keep) (fail)
  all_goals (go_wp2; exact bodyPost_ret (v := .tuple #[.agg #[.bool b, .int .i8 s, .int .u64 n], .bool true]) (by simp [results, Tryd.results48, go_sem, d0, d1, d2, f0, f1, f2, hz]) rfl ⟨rfl, (((below_drew HS3.out.below).setCell (p := ⟨w.heap.size + 1, 0, none⟩) (Nat.le_succ _) _).setCell (p := ⟨w.heap.size + 1, 1, none⟩) (Nat.le_succ _) _).setCell (p := ⟨w.heap.size + 1, 2, none⟩) (Nat.le_succ _) _⟩)
end Go.Proofs.YthkmgjkajllemaaDoor.Spec

/- 0 and the unit in the last place of a decimal of govalues. -/
namespace Go.Proofs.YthkmgjkajllemaaDoor.Spec
open Go.RowKit Go.Proofs.YthkmgjkajllemaaDoorW.PrintWords Go.Proofs.YthkmgjkajllemaaDoor.Make
set_option linter.unusedVariables false
set_option linter.unusedSimpArgs false

theorem scale_any (b : Bool) (s n : Nat) (w : World) (hs : s ≤ 19) :
    Calls Tryd.prog 83 #[.agg #[.bool b, .int .i8 s, .int .u64 n]] w fun e w' => e = .returned (.int .i64 s) ∧ Below w.heap.size w w' := by
  have hw : IntKind.i64.wrap (s : Int) = (s : Int) := IntWalk.i64_in _ (by omega)
  go_enter Tryd.func83, Tryd.ntmps83
  go_wp2
  go_ret
  exact ⟨rfl, (Below.refl _ _).alloc (Nat.le_refl _) _⟩

theorem zero_any (b : Bool) (s n : Nat) (w : World) (hs : s ≤ 19) :
    Calls Tryd.prog 49 #[.agg #[.bool b, .int .i8 s, .int .u64 n]] w fun e w' => e = .returned (.agg #[.bool false, .int .i8 s, .int .u64 0]) ∧ Below w.heap.size w w' := by
  have HC := Lib.hid (fun W => scale_any b s n W hs)
  have HU := Lib.hid (fun W => newUnsafe_any false 0 s W hs)
  rw [show ((0 : Nat) : Int) = 0 from rfl, show (false && decide (0 < 0)) = false from rfl] at HU
  have HS : Hid (St w ((w.alloc (.cells #[.bool b, .int .i8 s, .int .u64 n] 74)).alloc (.cells #[.bool false, .int .i8 0, .int .u64 0] 74))
      [(w.heap.size + 1, 0, .bool false), (w.heap.size + 1, 1, .int .i8 0), (w.heap.size + 1, 2, .int .u64 0)] (w.heap.size + 1) 3) :=
    ⟨Cells.box3 (Cells.nil _) (by simp) _ _ _ _, fun o _ => free_box (by simp) _ _ _, by simp, ((Below.refl _ _).alloc (Nat.le_refl _) _).alloc (by simp) _⟩
  clear hs
  go_enter Tryd.func49, Tryd.ntmps49
  go_wp2_with (first | (go_at_call 83; go_must (refine (HC.out _).mono ?_); rintro e w2 ⟨rfl, hb⟩; have HS2 := Lib.hid (HS.out.call hb); clear hb) | (go_at_call 85; go_must (refine (HU.out _).mono ?_); rintro e w3 ⟨rfl, hb⟩; have HS3 := Lib.hid (HS2.out.call hb); obtain ⟨d0, d1, d2, -⟩ := HS3.out.cells; have f0 := HS3.out.free 0 (by omega); have f1 := HS3.out.free 1 (by omega); have f2 := HS3.out.free 2 (by omega); have hz := HS3.out.lt; clear hb))
  exact bodyPost_ret (v := .agg #[.bool false, .int .i8 s, .int .u64 0]) (by simp [results, Tryd.results49, go_sem, d0, d1, d2, f0, f1, f2, hz]) rfl ⟨rfl, ((HS3.out.below.setCell (p := ⟨w.heap.size + 1, 0, none⟩) (Nat.le_succ _) _).setCell (p := ⟨w.heap.size + 1, 1, none⟩) (Nat.le_succ _) _).setCell (p := ⟨w.heap.size + 1, 2, none⟩) (Nat.le_succ _) _⟩

theorem ulp_any (b : Bool) (s n : Nat) (w : World) (hs : s ≤ 19) :
    Calls Tryd.prog 53 #[.agg #[.bool b, .int .i8 s, .int .u64 n]] w fun e w' => e = .returned (.agg #[.bool false, .int .i8 s, .int .u64 1]) ∧ Below w.heap.size w w' := by
  have HC := Lib.hid (fun W => scale_any b s n W hs)
  have HU := Lib.hid (fun W => newUnsafe_any false 1 s W hs)
  rw [show ((1 : Nat) : Int) = 1 from rfl, show (false && decide (0 < 1)) = false from rfl] at HU
  have HS : Hid (St w ((w.alloc (.cells #[.bool b, .int .i8 s, .int .u64 n] 74)).alloc (.cells #[.bool false, .int .i8 0, .int .u64 0] 74))
      [(w.heap.size + 1, 0, .bool false), (w.heap.size + 1, 1, .int .i8 0), (w.heap.size + 1, 2, .int .u64 0)] (w.heap.size + 1) 3) :=
    ⟨Cells.box3 (Cells.nil _) (by simp) _ _ _ _, fun o _ => free_box (by simp) _ _ _, by simp, ((Below.refl _ _).alloc (Nat.le_refl _) _).alloc (by simp) _⟩
  clear hs
  go_enter Tryd.func53, Tryd.ntmps53
  go_wp2_with (first | (go_at_call 83; go_must (refine (HC.out _).mono ?_); rintro e w2 ⟨rfl, hb⟩; have HS2 := Lib.hid (HS.out.call hb); clear hb) | (go_at_call 85; go_must (refine (HU.out _).mono ?_); rintro e w3 ⟨rfl, hb⟩; have HS3 := Lib.hid (HS2.out.call hb); obtain ⟨d0, d1, d2, -⟩ := HS3.out.cells; have f0 := HS3.out.free 0 (by omega); have f1 := HS3.out.free 1 (by omega); have f2 := HS3.out.free 2 (by omega); have hz := HS3.out.lt; clear hb))
  exact bodyPost_ret (v := .agg #[.bool false, .int .i8 s, .int .u64 1]) (by simp [results, Tryd.results53, go_sem, d0, d1, d2, f0, f1, f2, hz]) rfl ⟨rfl, ((HS3.out.below.setCell (p := ⟨w.heap.size + 1, 0, none⟩) (Nat.le_succ _) _).setCell (p := ⟨w.heap.size + 1, 1, none⟩) (Nat.le_succ _) _).setCell (p := ⟨w.heap.size + 1, 2, none⟩) (Nat.le_succ _) _⟩
end Go.Proofs.YthkmgjkajllemaaDoor.Spec

/- FixZero, FixOne, FixULP: the deferred closures have nothing to recover. -/
namespace Go.Proofs.YthkmgjkajllemaaDoor.Spec
open Go.RowKit Go.Proofs.YthkmgjkajllemaaDoorW.PrintWords Go.Proofs.YthkmgjkajllemaaDoor.Make
set_option linter.unusedVariables false
set_option linter.unusedSimpArgs false

theorem Cells.box1 {W : World} {l : List (Nat × Nat × Value)} {b : Nat} (h : Cells W l) (hb : W.heap.size = b) (u : Value) (T : TypeId) : Cells (W.alloc (.cells #[u] T)) ((b, 0, u) :: l) := by
  subst hb
  exact ⟨by simp, h.alloc _⟩
theorem idle47 (p q : Addr) (w : World) :
    CallsD Tryd.prog 47 #[.pointer (some p), .pointer (some q)] .returning w fun e u' w' => e = .returned (.tuple #[]) ∧ u' = .returning ∧ w' = w := by
  refine callsD_of_wpS Tryd.func47 rfl fun c₀ cs hu => ?_
  apply wpS_seq
  apply wpS_region
  simp [wpOpsS, go_sem, recoverD, hu, Tryd.ntmps47, Exit.thenS]
  refine wpS_cond (t := false) (by simp [Act.eval, Array.replicate]) ?_
  simp only [Bool.false_eq_true, if_false]
  refine wpS_of_wp (wp_skip ?_)
  cases c₀
  simp_all [bodyPostS, results, Tryd.results47]
theorem idle50 (p q : Addr) (w : World) :
    CallsD Tryd.prog 50 #[.pointer (some p), .pointer (some q)] .returning w fun e u' w' => e = .returned (.tuple #[]) ∧ u' = .returning ∧ w' = w := by
  refine callsD_of_wpS Tryd.func50 rfl fun c₀ cs hu => ?_
  apply wpS_seq
  apply wpS_region
  simp [wpOpsS, go_sem, recoverD, hu, Tryd.ntmps50, Exit.thenS]
  refine wpS_cond (t := false) (by simp [Act.eval, Array.replicate]) ?_
  simp only [Bool.false_eq_true, if_false]
  refine wpS_of_wp (wp_skip ?_)
  cases c₀
  simp_all [bodyPostS, results, Tryd.results50]
theorem idle52 (p q : Addr) (w : World) :
    CallsD Tryd.prog 52 #[.pointer (some p), .pointer (some q)] .returning w fun e u' w' => e = .returned (.tuple #[]) ∧ u' = .returning ∧ w' = w := by
  refine callsD_of_wpS Tryd.func52 rfl fun c₀ cs hu => ?_
  apply wpS_seq
  apply wpS_region
  simp [wpOpsS, go_sem, recoverD, hu, Tryd.ntmps52, Exit.thenS]
  refine wpS_cond (t := false) (by simp [Act.eval, Array.replicate]) ?_
  simp only [Bool.false_eq_true, if_false]
  refine wpS_of_wp (wp_skip ?_)
  cases c₀
  simp_all [bodyPostS, results, Tryd.results52]
theorem idle63 (p q : Addr) (w : World) :
    CallsD Tryd.prog 63 #[.pointer (some p), .pointer (some q)] .returning w fun e u' w' => e = .returned (.tuple #[]) ∧ u' = .returning ∧ w' = w := by
  refine callsD_of_wpS Tryd.func63 rfl fun c₀ cs hu => ?_
  apply wpS_seq
  apply wpS_region
  simp [wpOpsS, go_sem, recoverD, hu, Tryd.ntmps63, Exit.thenS]
  refine wpS_cond (t := false) (by simp [Act.eval, Array.replicate]) ?_
  simp only [Bool.false_eq_true, if_false]
  refine wpS_of_wp (wp_skip ?_)
  cases c₀
  simp_all [bodyPostS, results, Tryd.results63]
theorem idle71 (p q : Addr) (w : World) :
    CallsD Tryd.prog 71 #[.pointer (some p), .pointer (some q)] .returning w fun e u' w' => e = .returned (.tuple #[]) ∧ u' = .returning ∧ w' = w := by
  refine callsD_of_wpS Tryd.func71 rfl fun c₀ cs hu => ?_
  apply wpS_seq
  apply wpS_region
  simp [wpOpsS, go_sem, recoverD, hu, Tryd.ntmps71, Exit.thenS]
  refine wpS_cond (t := false) (by simp [Act.eval, Array.replicate]) ?_
  simp only [Bool.false_eq_true, if_false]
  refine wpS_of_wp (wp_skip ?_)
  cases c₀
  simp_all [bodyPostS, results, Tryd.results71]

set_option maxHeartbeats 1000000 in
theorem fixZero_ok (neg : Bool) (n s : Nat) (w : World) (hs : s ≤ 19) (hn : n ≤ 9999999999999999999) :
    Calls Tryd.prog 21 #[.agg #[.bool neg, .int .u64 n, .int .i64 s]] w fun e w' => e = .returned (.tuple #[.agg #[.bool false, .int .u64 0, .int .i64 s], .int .i64 0]) ∧ Below w.heap.size w w' := by
  have hmf : ∀ (fn : Fn) (first cap : Array Value) (w : World), (Instr.makeFunc fn first cap).run Tryd.prog w = .ok (.func fn first cap) w := fun _ _ _ _ => rfl
  have HX := Lib.hid (fun W => fixed_ok neg n s W hs hn)
  generalize (neg && decide (0 < n)) = b at HX
  have HZ := Lib.hid (fun W => zero_any b s n W hs)
  have HF := Lib.hid (fun W => fix_any false s 0 W hs)
  rw [show ((0 : Nat) : Int) = 0 from rfl] at HF
  have HS : Hid (St w (((w.alloc (.cells #[.bool neg, .int .u64 n, .int .i64 s] 32)).alloc (.cells #[.bool false, .int .u64 0, .int .i64 0] 32)).alloc (.cells #[.int .i64 0] 3))
      [(w.heap.size + 1, 0, .bool false), (w.heap.size + 1, 1, .int .u64 0), (w.heap.size + 1, 2, .int .i64 0)] (w.heap.size + 1) 3) :=
    St.call ⟨Cells.box3 (Cells.nil _) (by simp) _ _ _ _, fun o _ => free_box (by simp) _ _ _, by simp, ((Below.refl _ _).alloc (Nat.le_refl _) _).alloc (by simp) _⟩ ((Below.refl _ _).alloc (Nat.le_refl _) _)
  have HT : Hid (St w (((w.alloc (.cells #[.bool neg, .int .u64 n, .int .i64 s] 32)).alloc (.cells #[.bool false, .int .u64 0, .int .i64 0] 32)).alloc (.cells #[.int .i64 0] 3))
      [(w.heap.size + 1 + 1, 0, .int .i64 0)] (w.heap.size + 1 + 1) 1) :=
    ⟨Cells.box1 (Cells.nil _) (by simp) _ _, fun o _ => free_box (by simp) _ _ _, by simp, (((Below.refl _ _).alloc (Nat.le_refl _) _).alloc (by simp) _).alloc (by simp; omega) _⟩
  clear hs hn
  go_enter_defers Tryd.func21, Tryd.ntmps21
  go_wp2_with (first | (go_at_call 48; go_must (refine (HX.out _).mono ?_); rintro e w2 ⟨rfl, hb⟩; have HS2 := Lib.hid (HS.out.call hb); have HT2 := Lib.hid (HT.out.call hb); have HL2 := Lib.hid HS2.out.lt; have HL2' := Lib.hid HT2.out.lt; clear hb) | (go_at_call 49; go_must (refine (HZ.out _).mono ?_); rintro e w3 ⟨rfl, hb⟩; have hb1 := below_one _ hb; have HS3 := Lib.hid (HS2.out.call hb1); have HT3 := Lib.hid (HT2.out.call hb1); clear hb hb1) | (go_at_call 45; go_must (refine (HF.out _).mono ?_); rintro e w4 ⟨rfl, hb⟩; have HS4 := Lib.hid (HS3.out.call hb); have HT4 := Lib.hid (HT3.out.call hb); obtain ⟨d0, d1, d2, -⟩ := HS4.out.cells; obtain ⟨d3, -⟩ := HT4.out.cells; have f0 := HS4.out.free 0 (by omega); have f1 := HS4.out.free 1 (by omega); have f2 := HS4.out.free 2 (by omega); have f3 := HT4.out.free 0 (by omega); clear hb))
  refine leaves_cons (f := 47) (args := #[.pointer (some ⟨w.heap.size + 1, 0, none⟩), .pointer (some ⟨w.heap.size + 1 + 1, 0, none⟩)]) (by simp) (by simp [go_sem]) ?_
  refine (idle47 _ _ _).mono ?_
  rintro e u' w'' ⟨rfl, rfl, rfl⟩
  have HE := (((HS4.out.below.setCell (p := ⟨w.heap.size + 1, 0, none⟩) (Nat.le_succ _) (.bool false)).setCell (p := ⟨w.heap.size + 1, 1, none⟩) (Nat.le_succ _) (.int .u64 0)).setCell (p := ⟨w.heap.size + 1, 2, none⟩) (Nat.le_succ _) (.int .i64 s)).setCell (p := ⟨w.heap.size + 1 + 1, 0, none⟩) (by show w.heap.size ≤ w.heap.size + 1 + 1; omega) (.int .i64 0)
  have hz := HS4.out.lt
  have hz1 := HT4.out.lt
  have hne : w.heap.size + 1 ≠ w.heap.size + 1 + 1 := by omega
  simp [Leaves, settle, results, Tryd.results21, go_sem, d0, d1, d2, d3, f0, f1, f2, f3]
  exact HE
set_option maxHeartbeats 1000000 in
theorem fixUlp_ok (neg : Bool) (n s : Nat) (w : World) (hs : s ≤ 19) (hn : n ≤ 9999999999999999999) :
    Calls Tryd.prog 23 #[.agg #[.bool neg, .int .u64 n, .int .i64 s]] w fun e w' => e = .returned (.tuple #[.agg #[.bool false, .int .u64 1, .int .i64 s], .int .i64 0]) ∧ Below w.heap.size w w' := by
  have hmf : ∀ (fn : Fn) (first cap : Array Value) (w : World), (Instr.makeFunc fn first cap).run Tryd.prog w = .ok (.func fn first cap) w := fun _ _ _ _ => rfl
  have HX := Lib.hid (fun W => fixed_ok neg n s W hs hn)
  generalize (neg && decide (0 < n)) = b at HX
  have HZ := Lib.hid (fun W => ulp_any b s n W hs)
  have HF := Lib.hid (fun W => fix_any false s 1 W hs)
  rw [show ((1 : Nat) : Int) = 1 from rfl] at HF
  have HS : Hid (St w (((w.alloc (.cells #[.bool neg, .int .u64 n, .int .i64 s] 32)).alloc (.cells #[.bool false, .int .u64 0, .int .i64 0] 32)).alloc (.cells #[.int .i64 0] 3))
      [(w.heap.size + 1, 0, .bool false), (w.heap.size + 1, 1, .int .u64 0), (w.heap.size + 1, 2, .int .i64 0)] (w.heap.size + 1) 3) :=
    St.call ⟨Cells.box3 (Cells.nil _) (by simp) _ _ _ _, fun o _ => free_box (by simp) _ _ _, by simp, ((Below.refl _ _).alloc (Nat.le_refl _) _).alloc (by simp) _⟩ ((Below.refl _ _).alloc (Nat.le_refl _) _)
  have HT : Hid (St w (((w.alloc (.cells #[.bool neg, .int .u64 n, .int .i64 s] 32)).alloc (.cells #[.bool false, .int .u64 0, .int .i64 0] 32)).alloc (.cells #[.int .i64 0] 3))
      [(w.heap.size + 1 + 1, 0, .int .i64 0)] (w.heap.size + 1 + 1) 1) :=
    ⟨Cells.box1 (Cells.nil _) (by simp) _ _, fun o _ => free_box (by simp) _ _ _, by simp, (((Below.refl _ _).alloc (Nat.le_refl _) _).alloc (by simp) _).alloc (by simp; omega) _⟩
  clear hs hn
  go_enter_defers Tryd.func23, Tryd.ntmps23
  go_wp2_with (first | (go_at_call 48; go_must (refine (HX.out _).mono ?_); rintro e w2 ⟨rfl, hb⟩; have HS2 := Lib.hid (HS.out.call hb); have HT2 := Lib.hid (HT.out.call hb); have HL2 := Lib.hid HS2.out.lt; have HL2' := Lib.hid HT2.out.lt; clear hb) | (go_at_call 53; go_must (refine (HZ.out _).mono ?_); rintro e w3 ⟨rfl, hb⟩; have hb1 := below_one _ hb; have HS3 := Lib.hid (HS2.out.call hb1); have HT3 := Lib.hid (HT2.out.call hb1); clear hb hb1) | (go_at_call 45; go_must (refine (HF.out _).mono ?_); rintro e w4 ⟨rfl, hb⟩; have HS4 := Lib.hid (HS3.out.call hb); have HT4 := Lib.hid (HT3.out.call hb); obtain ⟨d0, d1, d2, -⟩ := HS4.out.cells; obtain ⟨d3, -⟩ := HT4.out.cells; have f0 := HS4.out.free 0 (by omega); have f1 := HS4.out.free 1 (by omega); have f2 := HS4.out.free 2 (by omega); have f3 := HT4.out.free 0 (by omega); clear hb))
  refine leaves_cons (f := 52) (args := #[.pointer (some ⟨w.heap.size + 1, 0, none⟩), .pointer (some ⟨w.heap.size + 1 + 1, 0, none⟩)]) (by simp) (by simp [go_sem]) ?_
  refine (idle52 _ _ _).mono ?_
  rintro e u' w'' ⟨rfl, rfl, rfl⟩
  have HE := (((HS4.out.below.setCell (p := ⟨w.heap.size + 1, 0, none⟩) (Nat.le_succ _) (.bool false)).setCell (p := ⟨w.heap.size + 1, 1, none⟩) (Nat.le_succ _) (.int .u64 1)).setCell (p := ⟨w.heap.size + 1, 2, none⟩) (Nat.le_succ _) (.int .i64 s)).setCell (p := ⟨w.heap.size + 1 + 1, 0, none⟩) (by show w.heap.size ≤ w.heap.size + 1 + 1; omega) (.int .i64 0)
  have hz := HS4.out.lt
  have hz1 := HT4.out.lt
  have hne : w.heap.size + 1 ≠ w.heap.size + 1 + 1 := by omega
  simp [Leaves, settle, results, Tryd.results23, go_sem, d0, d1, d2, d3, f0, f1, f2, f3]
  exact HE
end Go.Proofs.YthkmgjkajllemaaDoor.Spec

/- The functions of govalues over whole numbers of at most 19 digits compute what they should, where the table of powers of ten lies in memory. -/
namespace Go.Proofs.YthkmgjkajllemaaDoor.Fint
open Go.RowKit

/-- A power of ten, closed to the walk. -/
def p10 (i : Nat) : Int := (10 : Int) ^ i
/-- How many digits a number has; 0 has none. -/
def dg : Nat → Nat
  | 0 => 0
  | n + 1 => dg ((n + 1) / 10) + 1
decreasing_by omega

theorem p10_pos (i : Nat) : 0 < p10 i := by unfold p10; exact Int.pow_pos (by decide)
theorem p10_succ (i : Nat) : p10 (i + 1) = 10 * p10 i := by unfold p10; rw [Int.pow_succ]; omega

theorem dg_le (n : Nat) : ∀ i : Nat, dg n ≤ i ↔ (n : Int) < p10 i := by
  induction n using Nat.strongRecOn with
  | ind n ih =>
    intro i
    match n with
    | 0 => simp [dg]; exact p10_pos i
    | n + 1 =>
      rw [dg]
      match i with
      | 0 => simp [p10]; omega
      | i + 1 =>
        have h := ih ((n + 1) / 10) (by omega) i
        rw [p10_succ]
        constructor
        · intro hd
          have := h.1 (by omega)
          omega
        · intro hd
          have := h.2 (by omega)
          omega

/-- The table of powers of ten lies in memory. -/
def PowAt (w : World) : Prop := ∀ i : Nat, i < 20 → w.cell? ⟨0, i, none⟩ = some (.int .u64 (p10 i))

set_option maxHeartbeats 400000 in
theorem prec_any (x : Nat) (w : World) (hp : PowAt w) (hx : (x : Int) < p10 20) :
    Calls Tryd.prog 77 #[.int .u64 x] w fun e w' => e = .returned (.int .i64 (dg x)) ∧ w = w' := by
  have hd := (dg_le x 20).2 hx
  go_enter Tryd.func77, Tryd.ntmps77
  go_wp2
  go_loop [3, 4] (fun lo hi => ∃ l h : Nat, l ≤ dg x ∧ dg x ≤ h ∧ h ≤ 20 ∧ lo = .int .i64 l ∧ hi = .int .i64 h)
    (fun lo hi => (intOf hi).toNat - (intOf lo).toNat)
  case atStart => exact ⟨0, 20, by omega, hd, by omega, rfl, rfl⟩
  case round =>
    obtain ⟨l, h, h1, h2, h3, rfl, rfl⟩ := hrel
    by_cases hlt : l < h
    · have hc := hp ((l + h) / 2) (by omega)
      have hm := dg_le x ((l + h) / 2)
      by_cases hq : (x : Int) < p10 ((l + h) / 2)
      · have hm' := hm.2 hq
        clear hm
        go_wp2
        go_round
        case rel => exact ⟨l, (l + h) / 2, by omega, by omega, by omega, rfl, by go_num⟩
        case measure => simp only [intOf]; omega
      · have hm' : ¬ dg x ≤ (l + h) / 2 := fun hh => hq (hm.1 hh)
        clear hm
        go_wp2
        go_round
        case rel => exact ⟨(l + h) / 2 + 1, h, by omega, by omega, by omega, by go_num, rfl⟩
        case measure => simp only [intOf]; omega
    · obtain rfl : l = dg x := by omega
      go_wp2
      go_ret
      exact ⟨rfl, rfl⟩

/-- How many zeros a number has at its end; 0 has none. -/
def tz (n : Nat) : Nat := if n = 0 then 0 else if n % 10 = 0 then tz (n / 10) + 1 else 0
termination_by n
decreasing_by omega
theorem tz_iff (n : Nat) : 0 < n → ∀ i, n % 10 ^ i = 0 ↔ i ≤ tz n := by
  induction n using Nat.strongRecOn with
  | ind n ih =>
    intro hn i
    rw [tz, if_neg (by omega)]
    cases i with
    | zero => simp [Nat.mod_one]
    | succ i =>
      have hd : n % 10 ^ (i + 1) = n % 10 + 10 * (n / 10 % 10 ^ i) := by rw [Nat.pow_succ, Nat.mul_comm, Nat.mod_mul]
      by_cases h : n % 10 = 0
      · rw [if_pos h, hd, h]
        have := ih (n / 10) (by omega) (by omega) i
        constructor
        · intro he
          have := this.1 (by omega)
          omega
        · intro he
          have := this.2 (by omega)
          omega
      · rw [if_neg h, hd]
        constructor
        · intro he; omega
        · intro he; omega
theorem tz_lt (n : Nat) (hn : 0 < n) : tz n < dg n := by
  apply Decidable.byContradiction
  intro hc
  have h1 := (tz_iff n hn (dg n)).2 (by omega)
  have h2 := (dg_le n (dg n)).1 (Nat.le_refl _)
  have h3 : n < 10 ^ dg n := by unfold p10 at h2; exact_mod_cast h2
  rw [Nat.mod_eq_of_lt h3] at h1
  omega
theorem tz_digit (n z : Nat) (hn : 0 < n) : (z < tz n → n / 10 ^ z % 10 = 0) ∧ (z = tz n → n / 10 ^ z % 10 ≠ 0) := by
  have hd : n % 10 ^ (z + 1) = n % 10 ^ z + 10 ^ z * (n / 10 ^ z % 10) := by rw [Nat.pow_succ, Nat.mod_mul]
  have hp : 0 < 10 ^ z := Nat.pow_pos (by decide)
  constructor
  · intro h
    have := (tz_iff n hn (z + 1)).2 (by omega)
    rw [hd] at this
    have h2 : 10 ^ z * (n / 10 ^ z % 10) = 0 := by omega
    rcases Nat.mul_eq_zero.1 h2 with h3 | h3
    · omega
    · exact h3
  · intro h he
    have h0 := (tz_iff n hn z).2 (by omega)
    rw [he, h0] at hd
    have := (tz_iff n hn (z + 1)).1 (by omega)
    omega
theorem dg_decs (n : Nat) : (Num.decs n).length = dg n := by
  induction n using Nat.strongRecOn with
  | ind n ih =>
    match n with
    | 0 => rw [Num.decs_zero, dg]; rfl
    | n + 1 =>
      rw [Num.decs_pos (by omega), dg, List.length_cons, ih _ (by omega)]

set_option maxHeartbeats 400000 in
theorem ntz_any (x : Nat) (w : World) (hp : PowAt w) (hx : (x : Int) < p10 20) :
    Calls Tryd.prog 78 #[.int .u64 x] w fun e w' => e = .returned (.int .i64 (tz x)) ∧ w = w' := by
  have hd := (dg_le x 20).2 hx
  have hprec := Lib.hid (prec_any x w hp hx)
  by_cases h0 : x = 0
  · subst h0
    have e0 : dg 0 = 0 := by rw [dg]
    rw [e0] at hprec
    clear hx hd e0
    go_enter Tryd.func78, Tryd.ntmps78
    go_wp2_with (go_at_call 77; refine (hprec.out).mono ?_; rintro e w' ⟨rfl, rfl⟩)
    refine wp_loop_rounds 1 ?_
    rw [rounds_succ]
    go_wp2
    go_ret
    exact ⟨by unfold tz; rfl, rfl⟩
  · have hxp : 0 < x := by omega
    have ht := tz_lt x hxp
    have hxp2 : (0 : Int) < x := by omega
    go_enter Tryd.func78, Tryd.ntmps78
    go_wp2_with (go_at_call 77; refine (hprec.out).mono ?_; rintro e w' ⟨rfl, rfl⟩)
    go_loop [3, 4] (fun lo hi => ∃ l h : Nat, 1 ≤ l ∧ l ≤ tz x + 1 ∧ tz x + 1 ≤ h ∧ h ≤ 20 ∧ lo = .int .i64 l ∧ hi = .int .i64 h)
      (fun lo hi => (intOf hi).toNat - (intOf lo).toNat)
    case atStart => exact ⟨1, dg x, by omega, by omega, by omega, hd, rfl, rfl⟩
    case round =>
      obtain ⟨l, h, h0, h1, h2, h3, rfl, rfl⟩ := hrel
      by_cases hlt : l < h
      · have hc := hp ((l + h) / 2) (by omega)
        have hm := tz_iff x hxp ((l + h) / 2)
        have hpos := p10_pos ((l + h) / 2)
        by_cases hq : (l + h) / 2 ≤ tz x
        · have he : ((x : Int) % p10 ((l + h) / 2) == 0) = true := by
            have := hm.2 hq
            rw [beq_iff_eq]
            unfold p10
            exact_mod_cast this
          clear hm
          go_wp2
          go_round
          case rel => exact ⟨(l + h) / 2 + 1, h, by omega, by omega, by omega, by omega, by go_num, rfl⟩
          case measure => simp only [intOf]; omega
        · have he : ((x : Int) % p10 ((l + h) / 2) == 0) = false := by
            have : ¬ x % 10 ^ ((l + h) / 2) = 0 := fun hh => hq (hm.1 hh)
            rw [beq_eq_false_iff_ne]
            unfold p10
            intro hh
            exact this (by exact_mod_cast hh)
          clear hm
          go_wp2
          go_round
          case rel => exact ⟨l, (l + h) / 2, by omega, by omega, by omega, by omega, rfl, by go_num⟩
          case measure => simp only [intOf]; omega
      · have hl := Lib.hid (show ((l : Int) - 1) = (tz x : Nat) by omega)
        have hl21 : l ≤ 21 := by omega
        clear h1 h2 ht hxp2 hd hprec hx
        go_wp2
        go_ret
        exact ⟨by rw [← hl.out]; rfl, rfl⟩

theorem hasPrec_any (x p : Nat) (w : World) (hp : PowAt w) (h1 : 1 ≤ p) (h2 : p ≤ 20) :
    Calls Tryd.prog 79 #[.int .u64 x, .int .i64 p] w fun e w' => e = .returned (.bool (decide (p10 (p - 1) ≤ (x : Int)))) ∧ w = w' := by
  obtain ⟨q, rfl⟩ : ∃ q, p = q + 1 := ⟨p - 1, by omega⟩
  have hc := hp q (by omega)
  have hv : (Value.int .i64 ((q + 1 : Nat) : Int)) = Value.int .i64 ((q : Int) + 1) := by rw [Int.natCast_add]; rfl
  rw [hv, Nat.add_sub_cancel]
  clear hv h1
  go_enter Tryd.func79, Tryd.ntmps79
  go_wp2
  go_ret
  exact ⟨rfl, rfl⟩

set_option maxHeartbeats 400000 in
theorem fintPrec_any (x : Nat) (w : World) (hp : PowAt w) (hx : x ≤ 9999999999999999999) :
    Calls Tryd.prog 14 #[.int .u64 x] w fun e w' => e = .returned (.int .i64 (dg x)) ∧ w = w' := by
  have h1 := Lib.hid (prec_any x w hp (by unfold p10; omega))
  go_enter Tryd.func14, Tryd.ntmps14
  go_wp2_with (first | (go_at_call 77; refine (h1.out).mono ?_; rintro e w' ⟨rfl, rfl⟩) | go_in)
  go_ret
  exact ⟨rfl, rfl⟩
end Go.Proofs.YthkmgjkajllemaaDoor.Fint

/- 1 with the scale of a decimal of govalues. -/
namespace Go.Proofs.YthkmgjkajllemaaDoor.Spec
open Go.RowKit Go.Proofs.YthkmgjkajllemaaDoorW.PrintWords Go.Proofs.YthkmgjkajllemaaDoor.Make Go.Proofs.YthkmgjkajllemaaDoor.Fint
set_option linter.unusedVariables false
set_option linter.unusedSimpArgs false

set_option maxHeartbeats 1000000 in
theorem one_dec_any (b : Bool) (s n c : Nat) (w : World) (hs : s ≤ 19) (hp : w.cell? ⟨0, s, none⟩ = some (.int .u64 c)) (hc : 0 < c) :
    Calls Tryd.prog 51 #[.agg #[.bool b, .int .i8 s, .int .u64 n]] w fun e w' => e = .returned (.agg #[.bool false, .int .i8 s, .int .u64 c]) ∧ Below w.heap.size w w' := by
  have HC := Lib.hid (fun W => scale_any b s n W hs)
  have HU := Lib.hid (fun W => newUnsafe_any false c s W hs)
  rw [show (false && decide (0 < c)) = false from rfl] at HU
  have HS : Hid (St w ((w.alloc (.cells #[.bool b, .int .i8 s, .int .u64 n] 74)).alloc (.cells #[.bool false, .int .i8 0, .int .u64 0] 74))
      [(w.heap.size + 1, 0, .bool false), (w.heap.size + 1, 1, .int .i8 0), (w.heap.size + 1, 2, .int .u64 0), (w.heap.size, 0, .bool b), (w.heap.size, 1, .int .i8 s), (w.heap.size, 2, .int .u64 n), (0, s, .int .u64 c)] (w.heap.size + 1) 3) :=
    ⟨Cells.box3 (Cells.box3 (show Cells w [(0, s, .int .u64 c)] from ⟨hp, trivial⟩) rfl _ _ _ _) (by simp) _ _ _ _, fun o _ => free_box (by simp) _ _ _, by simp, ((Below.refl _ _).alloc (Nat.le_refl _) _).alloc (by simp) _⟩
  have h0 := World.block_lt_of_cell? w _ hp
  have hne : w.heap.size + 1 ≠ w.heap.size := by omega
  have hne0 : w.heap.size + 1 ≠ 0 := by omega
  have hs1 : (s : Int) < 20 := by omega
  clear hp hc h0 hs
  go_enter Tryd.func51, Tryd.ntmps51
  go_wp2
  obtain ⟨W, hW⟩ : ∃ W, (w.alloc (.cells #[.bool b, .int .i8 s, .int .u64 n] 74)).alloc (.cells #[.bool false, .int .i8 0, .int .u64 0] 74) = W := ⟨_, rfl⟩
  rw [hW] at HS ⊢
  clear hW
  have HS1 := Lib.hid (HS.out.call (below_drew (Below.refl _ _)))
  clear HS
  go_region_held3 (fun W' => W'.cell? ⟨w.heap.size, 0, none⟩ = some (.bool b) ∧ W'.cell? ⟨w.heap.size, 1, none⟩ = some (.int .i8 s) ∧ W'.cell? ⟨w.heap.size, 2, none⟩ = some (.int .u64 n) ∧ W'.cell? ⟨0, s, none⟩ = some (.int .u64 c))
    (first | exact (by have h := HS4.out.cells.2.2.2; exact ⟨h.1, h.2.1, h.2.2.1, h.2.2.2.1⟩) | exact (by have h := HS3.out.cells.2.2.2; exact ⟨h.1, h.2.1, h.2.2.1, h.2.2.2.1⟩) | exact (by have h := HS2.out.cells.2.2.2; exact ⟨h.1, h.2.1, h.2.2.1, h.2.2.2.1⟩) | exact (by have h := HS1.out.cells.2.2.2; exact ⟨h.1, h.2.1, h.2.2.1, h.2.2.2.1⟩) | go_keep)
    (first | (go_at_call 83; (refine (HC.out _).mono ?_); rintro e w2 ⟨rfl, hb⟩; first | (have HS3 := Lib.hid (HS2.out.call hb); clear hb) | (have HS2 := Lib.hid (HS1.out.call hb); clear hb)) | (go_at_call 85; (refine (HU.out _).mono ?_); rintro e w4 ⟨rfl, hb⟩; have HS4 := Lib.hid (HS3.out.call hb); obtain ⟨d0, d1, d2, -⟩ := HS4.out.cells; have f0 := HS4.out.free 0 (by omega); have f1 := HS4.out.free 1 (by omega); have f2 := HS4.out.free 2 (by omega); have hz := HS4.out.lt; clear hb))
  all_goals (go_wp2; exact bodyPost_ret (v := .agg #[.bool false, .int .i8 s, .int .u64 c]) (by simp [results, Tryd.results51, go_sem, d0, d1, d2, f0, f1, f2, hz]) rfl ⟨rfl, ((HS4.out.below.setCell (p := ⟨w.heap.size + 1, 0, none⟩) (Nat.le_succ _) _).setCell (p := ⟨w.heap.size + 1, 1, none⟩) (Nat.le_succ _) _).setCell (p := ⟨w.heap.size + 1, 2, none⟩) (Nat.le_succ _) _⟩)
set_option maxHeartbeats 1000000 in
theorem fixOne_ok (neg : Bool) (n s c : Nat) (w : World) (hs : s ≤ 19) (hn : n ≤ 9999999999999999999) (hp : w.cell? ⟨0, s, none⟩ = some (.int .u64 c)) (hc : 0 < c) :
    Calls Tryd.prog 22 #[.agg #[.bool neg, .int .u64 n, .int .i64 s]] w fun e w' => e = .returned (.tuple #[.agg #[.bool false, .int .u64 c, .int .i64 s], .int .i64 0]) ∧ Below w.heap.size w w' := by
  have hmf : ∀ (fn : Fn) (first cap : Array Value) (w : World), (Instr.makeFunc fn first cap).run Tryd.prog w = .ok (.func fn first cap) w := fun _ _ _ _ => rfl
  have HX := Lib.hid (fun W => fixed_ok neg n s W hs hn)
  generalize (neg && decide (0 < n)) = b at HX
  have HZ := Lib.hid (fun W hW => one_dec_any b s n c W hs hW hc)
  have HF := Lib.hid (fun W => fix_any false s c W hs)
  have HP := Lib.hid hp
  have HS : Hid (St w (((w.alloc (.cells #[.bool neg, .int .u64 n, .int .i64 s] 32)).alloc (.cells #[.bool false, .int .u64 0, .int .i64 0] 32)).alloc (.cells #[.int .i64 0] 3))
      [(w.heap.size + 1, 0, .bool false), (w.heap.size + 1, 1, .int .u64 0), (w.heap.size + 1, 2, .int .i64 0)] (w.heap.size + 1) 3) :=
    St.call ⟨Cells.box3 (Cells.nil _) (by simp) _ _ _ _, fun o _ => free_box (by simp) _ _ _, by simp, ((Below.refl _ _).alloc (Nat.le_refl _) _).alloc (by simp) _⟩ ((Below.refl _ _).alloc (Nat.le_refl _) _)
  have HT : Hid (St w (((w.alloc (.cells #[.bool neg, .int .u64 n, .int .i64 s] 32)).alloc (.cells #[.bool false, .int .u64 0, .int .i64 0] 32)).alloc (.cells #[.int .i64 0] 3))
      [(w.heap.size + 1 + 1, 0, .int .i64 0)] (w.heap.size + 1 + 1) 1) :=
    ⟨Cells.box1 (Cells.nil _) (by simp) _ _, fun o _ => free_box (by simp) _ _ _, by simp, (((Below.refl _ _).alloc (Nat.le_refl _) _).alloc (by simp) _).alloc (by simp; omega) _⟩
  clear hs hn hp hc
  go_enter_defers Tryd.func22, Tryd.ntmps22
  go_wp2_with (first | (go_at_call 48; go_must (refine (HX.out _).mono ?_); rintro e w2 ⟨rfl, hb⟩; have HS2 := Lib.hid (HS.out.call hb); have HT2 := Lib.hid (HT.out.call hb); have HL2 := Lib.hid HS2.out.lt; have HL2' := Lib.hid HT2.out.lt; clear hb) | (go_at_call 51; go_must (refine (HZ.out _ (old_at (pw_cell_below HS2.out.below HP.out) _)).mono ?_); rintro e w3 ⟨rfl, hb⟩; have hb1 := below_one _ hb; have HS3 := Lib.hid (HS2.out.call hb1); have HT3 := Lib.hid (HT2.out.call hb1); clear hb hb1) | (go_at_call 45; go_must (refine (HF.out _).mono ?_); rintro e w4 ⟨rfl, hb⟩; have HS4 := Lib.hid (HS3.out.call hb); have HT4 := Lib.hid (HT3.out.call hb); obtain ⟨d0, d1, d2, -⟩ := HS4.out.cells; obtain ⟨d3, -⟩ := HT4.out.cells; have f0 := HS4.out.free 0 (by omega); have f1 := HS4.out.free 1 (by omega); have f2 := HS4.out.free 2 (by omega); have f3 := HT4.out.free 0 (by omega); clear hb))
  refine leaves_cons (f := 50) (args := #[.pointer (some ⟨w.heap.size + 1, 0, none⟩), .pointer (some ⟨w.heap.size + 1 + 1, 0, none⟩)]) (by simp) (by simp [go_sem]) ?_
  refine (idle50 _ _ _).mono ?_
  rintro e u' w'' ⟨rfl, rfl, rfl⟩
  have HE := (((HS4.out.below.setCell (p := ⟨w.heap.size + 1, 0, none⟩) (Nat.le_succ _) (.bool false)).setCell (p := ⟨w.heap.size + 1, 1, none⟩) (Nat.le_succ _) (.int .u64 c)).setCell (p := ⟨w.heap.size + 1, 2, none⟩) (Nat.le_succ _) (.int .i64 s)).setCell (p := ⟨w.heap.size + 1 + 1, 0, none⟩) (by show w.heap.size ≤ w.heap.size + 1 + 1; omega) (.int .i64 0)
  have hz := HS4.out.lt
  have hz1 := HT4.out.lt
  have hne : w.heap.size + 1 ≠ w.heap.size + 1 + 1 := by omega
  simp [Leaves, settle, results, Tryd.results22, go_sem, d0, d1, d2, d3, f0, f1, f2, f3]
  exact HE
end Go.Proofs.YthkmgjkajllemaaDoor.Spec

/- Comparing whole numbers and fractions of the reference. -/
namespace Go.Proofs.YthkmgjkajllemaaDoor.Spec
open Go.RowKit Go.Proofs.YthkmgjkajllemaaDoorW.PrintWords Go.Proofs.YthkmgjkajllemaaDoor.Num Go.Proofs.YthkmgjkajllemaaDoor.Str Go.Proofs.YthkmgjkajllemaaDoor.Nats Go.Proofs.YthkmgjkajllemaaDoor.Val Go.Proofs.YthkmgjkajllemaaDoor.Arith Go.Proofs.YthkmgjkajllemaaDoor.NatOps Go.Proofs.YthkmgjkajllemaaDoor.Make
set_option linter.unusedVariables false
set_option linter.unusedSimpArgs false

/-- How two numbers with a sign compare. -/
def icmp (p q : Int) : Int := if p < q then -1 else if p = q then 0 else 1

theorem icmp_nn {p q : Int} (hp : 0 ≤ p) (hq : 0 ≤ q) : icmp p q = cmp p.natAbs q.natAbs := by
  unfold icmp cmp
  by_cases h : p < q
  · have h3 : p.natAbs < q.natAbs := by omega
    rw [if_pos h, if_pos h3]
  · have h3 : ¬ p.natAbs < q.natAbs := by omega
    rw [if_neg h, if_neg h3]
    by_cases h2 : p = q
    · have h4 : p.natAbs = q.natAbs := by omega
      rw [if_pos h2, if_pos h4]
    · have h4 : ¬ p.natAbs = q.natAbs := by omega
      rw [if_neg h2, if_neg h4]
theorem icmp_neg {p q : Int} (hp : p < 0) (hq : q < 0) : icmp p q = cmp q.natAbs p.natAbs := by
  unfold icmp cmp
  by_cases h : p < q
  · have h3 : q.natAbs < p.natAbs := by omega
    rw [if_pos h, if_pos h3]
  · have h3 : ¬ q.natAbs < p.natAbs := by omega
    rw [if_neg h, if_neg h3]
    by_cases h2 : p = q
    · have h4 : q.natAbs = p.natAbs := by omega
      rw [if_pos h2, if_pos h4]
    · have h4 : ¬ q.natAbs = p.natAbs := by omega
      rw [if_neg h2, if_neg h4]
theorem icmp_lt {p q : Int} (h : p < q) : icmp p q = -1 := if_pos h
theorem icmp_gt {p q : Int} (h : q < p) : icmp p q = 1 := by unfold icmp; rw [if_neg (by omega), if_neg (by omega)]

set_option maxHeartbeats 2000000 in
/-- Whole.Cmp. -/
theorem wholeCmp_any (p q : Int) (u v : Value) (w : World) (hu : IsNat w u p.natAbs) (hv : IsNat w v q.natAbs) (hm : (limbs p.natAbs).length < 1000000) (hn : (limbs q.natAbs).length < 1000000) :
    Calls Tryd.prog 33 #[.agg #[.bool (decide (p < 0)), u], .agg #[.bool (decide (q < 0)), v]] w fun e w' => e = .returned (.int .i64 (icmp p q)) ∧ Below w.heap.size w w' := by
  have hb2 : Below w.heap.size w ((w.alloc (.cells #[.bool (decide (p < 0)), u] 37)).alloc (.cells #[.bool (decide (q < 0)), v] 37)) := ((Below.refl _ _).alloc (Nat.le_refl _) _).alloc (by simp) _
  have hu2 := hu.below hb2
  have hv2 := hv.below hb2
  have h1 := natCmp_any u v _ _ _ hu2 hv2 hm hn
  have h2 := natCmp_any v u _ _ _ hv2 hu2 hn hm
  obtain ⟨A, c, rfl, hc, hr⟩ := hu
  obtain ⟨A', c', rfl, hc', hr'⟩ := hv
  clear hr hr' hc hc' hu2 hv2 hm hn
  by_cases hp : p < 0 <;> by_cases hq : q < 0
  · rw [icmp_neg hp hq]
    rw [show decide (p < 0) = true from decide_eq_true hp, show decide (q < 0) = true from decide_eq_true hq] at *
    have H := Lib.hid h2
    have HB := Lib.hid hb2
    clear h1 h2 hb2 hp hq
    go_enter Tryd.func33, Tryd.ntmps33
    go_wp2_with (first | (go_at_call 60; go_must (refine H.out.mono ?_); rintro e w2 ⟨rfl, hb⟩; have HB2 := Lib.hid (HB.out.trans (hb.mono HB.out.size)); clear hb))
    go_ret
    exact ⟨rfl, HB2.out⟩
  · rw [icmp_lt (by omega)]
    rw [show decide (p < 0) = true from decide_eq_true hp, show decide (q < 0) = false from decide_eq_false hq] at *
    have HB := Lib.hid hb2
    clear h1 h2 hb2 hp hq
    go_enter Tryd.func33, Tryd.ntmps33
    go_wp2
    go_ret
    exact ⟨rfl, HB.out⟩
  · rw [icmp_gt (by omega)]
    rw [show decide (p < 0) = false from decide_eq_false hp, show decide (q < 0) = true from decide_eq_true hq] at *
    have HB := Lib.hid hb2
    clear h1 h2 hb2 hp hq
    go_enter Tryd.func33, Tryd.ntmps33
    go_wp2
    go_ret
    exact ⟨rfl, HB.out⟩
  · rw [icmp_nn (by omega) (by omega)]
    rw [show decide (p < 0) = false from decide_eq_false hp, show decide (q < 0) = false from decide_eq_false hq] at *
    have H := Lib.hid h1
    have HB := Lib.hid hb2
    clear h1 h2 hb2 hp hq
    go_enter Tryd.func33, Tryd.ntmps33
    go_wp2_with (first | (go_at_call 60; go_must (refine H.out.mono ?_); rintro e w2 ⟨rfl, hb⟩; have HB2 := Lib.hid (HB.out.trans (hb.mono HB.out.size)); clear hb))
    go_ret
    exact ⟨rfl, HB2.out⟩

/-- Whole.Mul, with signs. -/
theorem wholeMul_int (p : Int) (d : Nat) (u v : Value) (w : World) (hu : IsNat w u p.natAbs) (hv : IsNat w v d) (hm : (limbs p.natAbs).length < 1000000) (hn : (limbs d).length < 1000000) :
    Calls Tryd.prog 70 #[.agg #[.bool (decide (p < 0)), u], .agg #[.bool false, v]] w fun e w' => ∃ r, e = .returned (.agg #[.bool (decide (p * d < 0)), r]) ∧ IsNew w' w.heap.size r (p * d).natAbs ∧ Below w.heap.size w w' := by
  have h := wholeMul_any (decide (p < 0)) false u v p.natAbs d w hu hv hm hn
  have e1 : (p * (d : Int)).natAbs = p.natAbs * d := by rw [Int.natAbs_mul]; rfl
  have e2 : ((decide (p < 0) != false) && decide (0 < p.natAbs * d)) = decide (p * (d : Int) < 0) := by
    rcases Nat.eq_zero_or_pos d with h0 | h0
    · subst h0; simp
    · by_cases hp : p < 0
      · have h1 : 0 < p.natAbs * d := Nat.mul_pos (by omega) h0
        have h2 : p * (d : Int) < 0 := Int.mul_neg_of_neg_of_pos hp (by omega)
        simp [hp, h1, h2]
      · have h2 : ¬ (p * (d : Int) < 0) := by
          have := Int.mul_nonneg (show 0 ≤ p by omega) (show (0 : Int) ≤ d by omega)
          omega
        simp [hp, h2]
  rw [e2] at h
  rw [e1]
  exact h

set_option maxHeartbeats 800000 in
set_option maxRecDepth 100000 in
/-- Frac.Cmp: p/d beside q/f. -/
theorem fracCmp_any (p q : Int) (d f : Nat) (u v u' v' : Value) (w : World) (hu : IsNat w u p.natAbs) (hv : IsNat w v d) (hu' : IsNat w u' q.natAbs) (hv' : IsNat w v' f)
    (hp : (limbs p.natAbs).length < 1000) (hd : (limbs d).length < 1000) (hq : (limbs q.natAbs).length < 1000) (hf : (limbs f).length < 1000)
    (hpf : (limbs (p * f).natAbs).length < 1000000) (hqd : (limbs (q * d).natAbs).length < 1000000) :
    Calls Tryd.prog 36 #[.agg #[.bool (decide (p < 0)), u, v], .agg #[.bool (decide (q < 0)), u', v']] w fun e w' => e = .returned (.int .i64 (icmp (p * f) (q * d))) ∧ Below w.heap.size w w' := by
  have HM1 := Lib.hid (fun W h1 h2 => wholeMul_int p f u v' W h1 h2 (by omega) (by omega))
  have HM2 := Lib.hid (fun W h1 h2 => wholeMul_int q d u' v W h1 h2 (by omega) (by omega))
  have HC := Lib.hid (fun r r' W h1 h2 => wholeCmp_any (p * f) (q * d) r r' W h1 h2 hpf hqd)
  have HU := Lib.hid (fun (W : World) (hb : Below w.heap.size w W) => hu.below hb)
  have HV := Lib.hid (fun (W : World) (hb : Below w.heap.size w W) => hv.below hb)
  have HU' := Lib.hid (fun (W : World) (hb : Below w.heap.size w W) => hu'.below hb)
  have HV' := Lib.hid (fun (W : World) (hb : Below w.heap.size w W) => hv'.below hb)
  obtain ⟨A, c, rfl, hc, hr⟩ := hu
  obtain ⟨B, cb, rfl, hcb, hrb⟩ := hv
  obtain ⟨A', c', rfl, hc', hr'⟩ := hu'
  obtain ⟨B', cb', rfl, hcb', hrb'⟩ := hv'
  clear hc hr hcb hrb hc' hr' hcb' hrb' hp hd hq hf hpf hqd
  generalize decide (p < 0) = x at HM1 ⊢
  generalize decide (q < 0) = y at HM2 ⊢
  generalize decide (p * (f : Int) < 0) = x2 at HM1 HC ⊢
  generalize decide (q * (d : Int) < 0) = y2 at HM2 HC ⊢
  generalize icmp (p * f) (q * d) = res at HC ⊢
  generalize (p * (f : Int)).natAbs = m at HM1 HC ⊢
  generalize (q * (d : Int)).natAbs = n at HM2 HC ⊢
  generalize (limbs p.natAbs).length = lp at *
  generalize (limbs q.natAbs).length = lq at *
  generalize (limbs d).length = ld at *
  generalize (limbs f).length = lf at *
  have HS : Hid (St w ((w.alloc (.cells #[.bool x, .slice A lp c, .slice B ld cb] 45)).alloc (.cells #[.bool y, .slice A' lq c', .slice B' lf cb'] 45))
      [(w.heap.size + 1, 0, .bool y), (w.heap.size + 1, 1, .slice A' lq c'), (w.heap.size + 1, 2, .slice B' lf cb'), (w.heap.size, 0, .bool x), (w.heap.size, 1, .slice A lp c), (w.heap.size, 2, .slice B ld cb)] (w.heap.size + 1) 3) :=
    ⟨Cells.box3 (Cells.box3 (Cells.nil _) rfl _ _ _ _) (by simp) _ _ _ _, fun o _ => free_box (by simp) _ _ _, by simp, ((Below.refl _ _).alloc (Nat.le_refl _) _).alloc (by simp) _⟩
  go_enter Tryd.func36, Tryd.ntmps36
  go_wp2
  obtain ⟨W, hW⟩ : ∃ W, (w.alloc (.cells #[.bool x, .slice A lp c, .slice B ld cb] 45)).alloc (.cells #[.bool y, .slice A' lq c', .slice B' lf cb'] 45) = W := ⟨_, rfl⟩
  rw [hW] at HS ⊢
  clear hW
  have HS1 := Lib.hid (HS.out.call (below_drew (Below.refl _ _)))
  clear HS
  go_region_held3 (fun W' => W'.cell? ⟨w.heap.size + 1, 0, none⟩ = some (.bool y) ∧ W'.cell? ⟨w.heap.size + 1, 1, none⟩ = some (.slice A' lq c') ∧ W'.cell? ⟨w.heap.size + 1, 2, none⟩ = some (.slice B' lf cb') ∧ W'.cell? ⟨w.heap.size, 0, none⟩ = some (.bool x) ∧ W'.cell? ⟨w.heap.size, 1, none⟩ = some (.slice A lp c) ∧ W'.cell? ⟨w.heap.size, 2, none⟩ = some (.slice B ld cb))
    (first | exact (by have h := HS4.out.cells; exact ⟨h.1, h.2.1, h.2.2.1, h.2.2.2.1, h.2.2.2.2.1, h.2.2.2.2.2.1⟩) | exact (by have h := HS3.out.cells; exact ⟨h.1, h.2.1, h.2.2.1, h.2.2.2.1, h.2.2.2.2.1, h.2.2.2.2.2.1⟩) | exact (by have h := HS2.out.cells; exact ⟨h.1, h.2.1, h.2.2.1, h.2.2.2.1, h.2.2.2.2.1, h.2.2.2.2.2.1⟩) | exact (by have h := HS1.out.cells; exact ⟨h.1, h.2.1, h.2.2.1, h.2.2.2.1, h.2.2.2.2.1, h.2.2.2.2.2.1⟩) | go_keep)
    (first | (go_at_call 70; with_reducible refine (HM1.out _ (HU.out _ HS1.out.below) (HV'.out _ HS1.out.below)).mono ?_; rintro e w2 ⟨r, rfl, hn, hb⟩; have HS2 := Lib.hid (HS1.out.call hb); have HG2 := Lib.hid hn; obtain ⟨A2, c2, rfl⟩ := hn.slice; clear hn hb) | (go_at_call 70; with_reducible refine (HM2.out _ (HU'.out _ HS2.out.below) (HV.out _ HS2.out.below)).mono ?_; rintro e w3 ⟨r, rfl, hn, hb⟩; have HS3 := Lib.hid (HS2.out.call hb); have HG3 := Lib.hid (HG2.out.below hb); have HG3' := Lib.hid hn; obtain ⟨A3, c3, rfl⟩ := hn.slice; clear hn hb) | (go_at_call 33; refine (HC.out _ _ _ HG3.out.isNat HG3'.out.isNat).mono ?_; rintro e w4 ⟨rfl, hb⟩; have HS4 := Lib.hid (HS3.out.call hb); clear hb))
  all_goals (go_wp2; go_ret; exact ⟨rfl, HS4.out.below⟩)
end Go.Proofs.YthkmgjkajllemaaDoor.Spec

/- Decimal numbers of the reference as fractions. -/
namespace Go.Proofs.YthkmgjkajllemaaDoor.Spec
open Go.RowKit Go.Proofs.YthkmgjkajllemaaDoorW.PrintWords Go.Proofs.YthkmgjkajllemaaDoor.Num Go.Proofs.YthkmgjkajllemaaDoor.Str Go.Proofs.YthkmgjkajllemaaDoor.Nats Go.Proofs.YthkmgjkajllemaaDoor.Val Go.Proofs.YthkmgjkajllemaaDoor.Arith Go.Proofs.YthkmgjkajllemaaDoor.NatOps Go.Proofs.YthkmgjkajllemaaDoor.Make
set_option linter.unusedVariables false
set_option linter.unusedSimpArgs false

set_option maxHeartbeats 2000000 in
set_option maxRecDepth 100000 in
/-- Dec.Frac: z / 10^s, where places are behind the point. -/
theorem decFrac_pos (z : Int) (s b0 : Nat) (u : Value) (w : World) (hu : IsNew w b0 u z.natAbs) (hb0 : b0 ≤ w.heap.size) (hs : 0 < s) (hs1 : s < 1000) :
    Calls Tryd.prog 30 #[.agg #[.bool (decide (z < 0)), u, .int .i64 (-(s : Int))]] w fun e w' => ∃ u' v', e = .returned (.agg #[.bool (decide (z < 0)), u', v']) ∧ IsNew w' b0 u' z.natAbs ∧ IsNew w' b0 v' (10 ^ s) ∧ Below w.heap.size w w' := by
  have HP := Lib.hid (fun W => pow10_any s W (by omega))
  have HU := Lib.hid (fun (W : World) (hb : Below w.heap.size w W) => hu.below hb)
  have HB0 := Lib.hid hb0
  obtain ⟨A, c, rfl⟩ := hu.slice
  clear hu hb0
  generalize decide (z < 0) = x at *
  generalize z.natAbs = m at *
  have g0 : decide (0 ≤ -(s : Int)) = false := decide_eq_false (by omega)
  have hsp : 1 ≤ (s : Int) := by omega
  have hw : IntKind.i64.wrap (s : Int) = (s : Int) := IntWalk.i64_in _ (by omega)
  have hnn : -(-(s : Int)) = (s : Int) := by omega
  have HS : Hid (St w ((w.alloc (.cells #[.bool x, .slice A (limbs m).length c, .int .i64 (-(s : Int))] 40)).alloc (.cells #[.bool false, .slice none 0 0, .slice none 0 0] 45))
      [(w.heap.size + 1, 0, .bool false), (w.heap.size + 1, 1, .slice none 0 0), (w.heap.size + 1, 2, .slice none 0 0), (w.heap.size, 0, .bool x), (w.heap.size, 1, .slice A (limbs m).length c), (w.heap.size, 2, .int .i64 (-(s : Int)))] (w.heap.size + 1) 3) :=
    ⟨Cells.box3 (Cells.box3 (Cells.nil _) rfl _ _ _ _) (by simp) _ _ _ _, fun o _ => free_box (by simp) _ _ _, by simp, ((Below.refl _ _).alloc (Nat.le_refl _) _).alloc (by simp) _⟩
  have hne : w.heap.size + 1 ≠ w.heap.size := by omega
  clear hs
  go_enter Tryd.func30, Tryd.ntmps30
  go_wp2
  obtain ⟨W, hW⟩ : ∃ W, (w.alloc (.cells #[.bool x, .slice A (limbs m).length c, .int .i64 (-(s : Int))] 40)).alloc (.cells #[.bool false, .slice none 0 0, .slice none 0 0] 45) = W := ⟨_, rfl⟩
  rw [hW] at HS ⊢
  clear hW
  have HS1 := Lib.hid (HS.out.call (below_drew (Below.refl _ _)))
  clear HS
  go_region_held3 (fun W' => W'.cell? ⟨w.heap.size, 0, none⟩ = some (.bool x) ∧ W'.cell? ⟨w.heap.size, 1, none⟩ = some (.slice A (limbs m).length c) ∧ W'.cell? ⟨w.heap.size, 2, none⟩ = some (.int .i64 (-(s : Int))))
    (first | exact (by have h := HS2.out.cells.2.2.2; exact ⟨h.1, h.2.1, h.2.2.1⟩) | exact (by have h := HS1.out.cells.2.2.2; exact ⟨h.1, h.2.1, h.2.2.1⟩) | go_keep)
    (first | (go_at_call 57; (try rw [hnn]); (with_reducible refine (HP.out _).mono ?_); rintro e w2 ⟨r, rfl, hn, hb⟩; have HS2 := Lib.hid (HS1.out.call hb); have HG2 := Lib.hid hn; obtain ⟨A2, c2, rfl⟩ := hn.slice; obtain ⟨d0, d1, d2, b0', b1', b2', -⟩ := HS2.out.cells; have f0 := HS2.out.free 0 (by omega); have f1 := HS2.out.free 1 (by omega); have f2 := HS2.out.free 2 (by omega); have hz := HS2.out.lt; clear hn hb))
  all_goals (go_wp2; have HF : Hid (Below w.heap.size w _) := ((HS2.out.below.setCell (p := ⟨w.heap.size + 1, 0, none⟩) (Nat.le_succ _) (.bool x)).setCell (p := ⟨w.heap.size + 1, 1, none⟩) (Nat.le_succ _) (.slice A (limbs m).length c)).setCell (p := ⟨w.heap.size + 1, 2, none⟩) (Nat.le_succ _) (.slice A2 (limbs (10 ^ s)).length c2); exact bodyPost_ret (v := .agg #[.bool x, .slice A (limbs m).length c, .slice A2 (limbs (10 ^ s)).length c2]) (by simp [results, Tryd.results30, go_sem, d0, d1, d2, f0, f1, f2, hz]) rfl ⟨_, _, rfl, HU.out _ HF.out, (((HG2.out.set (by have := HS1.out.lt; exact this) _).set (by have := HS1.out.lt; exact this) _).set (by have := HS1.out.lt; exact this) _).lower (Nat.le_trans HB0.out HS1.out.below.size), HF.out⟩)

set_option maxHeartbeats 2000000 in
set_option maxRecDepth 100000 in
/-- Dec.Frac of a whole number. -/
theorem decFrac_zero (z : Int) (b0 : Nat) (u : Value) (w : World) (hu : IsNew w b0 u z.natAbs) (hb0 : b0 ≤ w.heap.size) (hl : (limbs z.natAbs).length < 1000) :
    Calls Tryd.prog 30 #[.agg #[.bool (decide (z < 0)), u, .int .i64 0]] w fun e w' => ∃ u' v', e = .returned (.agg #[.bool (decide (z < 0)), u', v']) ∧ IsNew w' b0 u' z.natAbs ∧ IsNew w' b0 v' 1 ∧ Below w.heap.size w w' := by
  have h10 : (limbs (10 ^ 0)).length < 1000 := by rw [show 10 ^ 0 = 1 from rfl, limbs_one 1 (by omega) (by omega)]; simp
  have HP := Lib.hid (fun W => pow10_any 0 W (by omega))
  have HM := Lib.hid (fun v W h1 h2 => natMul_any u v z.natAbs (10 ^ 0) W h1 h2 (by omega) (by omega))
  have HW := Lib.hid (fun r W hr => wholeMk_any (decide (z < 0)) r z.natAbs W hr)
  have HO := Lib.hid (fun W => one_any W)
  rw [show z.natAbs * 10 ^ 0 = z.natAbs by simp] at HM
  rw [show (decide (z < 0) && decide (0 < z.natAbs)) = decide (z < 0) by by_cases h : z < 0 <;> simp [h]; omega] at HW
  have HU := Lib.hid (fun (W : World) (hb : Below w.heap.size w W) => (hu.below hb).isNat)
  have HB0 := Lib.hid hb0
  obtain ⟨A, c, rfl⟩ := hu.slice
  clear hu hb0 h10 hl
  generalize decide (z < 0) = x at *
  generalize z.natAbs = m at *
  have HS : Hid (St w ((w.alloc (.cells #[.bool x, .slice A (limbs m).length c, .int .i64 0] 40)).alloc (.cells #[.bool false, .slice none 0 0, .slice none 0 0] 45))
      [(w.heap.size + 1, 0, .bool false), (w.heap.size + 1, 1, .slice none 0 0), (w.heap.size + 1, 2, .slice none 0 0), (w.heap.size, 0, .bool x), (w.heap.size, 1, .slice A (limbs m).length c), (w.heap.size, 2, .int .i64 0)] (w.heap.size + 1) 3) :=
    ⟨Cells.box3 (Cells.box3 (Cells.nil _) rfl _ _ _ _) (by simp) _ _ _ _, fun o _ => free_box (by simp) _ _ _, by simp, ((Below.refl _ _).alloc (Nat.le_refl _) _).alloc (by simp) _⟩
  have hne : w.heap.size + 1 ≠ w.heap.size := by omega
  go_enter Tryd.func30, Tryd.ntmps30
  go_wp2
  obtain ⟨W, hW⟩ : ∃ W, (w.alloc (.cells #[.bool x, .slice A (limbs m).length c, .int .i64 0] 40)).alloc (.cells #[.bool false, .slice none 0 0, .slice none 0 0] 45) = W := ⟨_, rfl⟩
  rw [hW] at HS ⊢
  clear hW
  have HS1 := Lib.hid (HS.out.call (below_drew (Below.refl _ _)))
  clear HS
  go_region_held3 (fun W' => W'.cell? ⟨w.heap.size, 0, none⟩ = some (.bool x) ∧ W'.cell? ⟨w.heap.size, 1, none⟩ = some (.slice A (limbs m).length c) ∧ W'.cell? ⟨w.heap.size, 2, none⟩ = some (.int .i64 0))
    (first | exact (by have h := HS5.out.cells.2.2.2; exact ⟨h.1, h.2.1, h.2.2.1⟩) | exact (by have h := HS4.out.cells.2.2.2; exact ⟨h.1, h.2.1, h.2.2.1⟩) | exact (by have h := HS3.out.cells.2.2.2; exact ⟨h.1, h.2.1, h.2.2.1⟩) | exact (by have h := HS2.out.cells.2.2.2; exact ⟨h.1, h.2.1, h.2.2.1⟩) | exact (by have h := HS1.out.cells.2.2.2; exact ⟨h.1, h.2.1, h.2.2.1⟩) | go_keep)
    (first | (go_at_call 57; (refine (HP.out _).mono ?_); rintro e w2 ⟨r, rfl, hn, hb⟩; have HS2 := Lib.hid (HS1.out.call hb); have HG2 := Lib.hid hn.isNat; obtain ⟨A2, c2, rfl⟩ := hn.slice; clear hn hb) | (go_at_call 56; (refine (HM.out _ _ (HU.out _ HS2.out.below) HG2.out).mono ?_); rintro e w3 ⟨r, rfl, hn, hb⟩; have HS3 := Lib.hid (HS2.out.call hb); have HG3 := Lib.hid hn; obtain ⟨A3, c3, rfl⟩ := hn.slice; clear hn hb) | (go_at_call 62; (refine (HW.out _ _ HG3.out.isNat).mono ?_); rintro e w4 ⟨rfl, hb⟩; have HS4 := Lib.hid (HS3.out.call hb); have HG4 := Lib.hid (HG3.out.below hb); clear hb) | (go_at_call 55; (refine (HO.out _).mono ?_); rintro e w5 ⟨r, rfl, hn, hb⟩; have HS5 := Lib.hid (HS4.out.call hb); have HG5 := Lib.hid (HG4.out.below hb); have HG5' := Lib.hid hn; obtain ⟨A5, c5, rfl⟩ := hn.slice; obtain ⟨d0, d1, d2, b0', b1', b2', -⟩ := HS5.out.cells; have f0 := HS5.out.free 0 (by omega); have f1 := HS5.out.free 1 (by omega); have f2 := HS5.out.free 2 (by omega); have hz := HS5.out.lt; clear hn hb))
  all_goals (go_wp2; exact bodyPost_ret (v := .agg #[.bool x, .slice A3 (limbs m).length c3, .slice A5 (limbs 1).length c5]) (by simp [results, Tryd.results30, go_sem, d0, d1, d2, f0, f1, f2, hz]) rfl ⟨_, _, rfl, (((HG5.out.set (by exact HS2.out.lt) _).set (by exact HS2.out.lt) _).set (by exact HS2.out.lt) _).lower (Nat.le_trans HB0.out HS2.out.below.size), (((HG5'.out.set (by exact HS4.out.lt) _).set (by exact HS4.out.lt) _).set (by exact HS4.out.lt) _).lower (Nat.le_trans HB0.out HS4.out.below.size), ((HS5.out.below.setCell (p := ⟨w.heap.size + 1, 0, none⟩) (Nat.le_succ _) _).setCell (p := ⟨w.heap.size + 1, 1, none⟩) (Nat.le_succ _) _).setCell (p := ⟨w.heap.size + 1, 2, none⟩) (Nat.le_succ _) _⟩)

/-- Dec.Frac: z / 10^s. -/
theorem decFrac_any (z : Int) (s b0 : Nat) (u : Value) (w : World) (hu : IsNew w b0 u z.natAbs) (hb0 : b0 ≤ w.heap.size) (hs : s < 1000) (hl : (limbs z.natAbs).length < 1000) :
    Calls Tryd.prog 30 #[.agg #[.bool (decide (z < 0)), u, .int .i64 (-(s : Int))]] w fun e w' => ∃ u' v', e = .returned (.agg #[.bool (decide (z < 0)), u', v']) ∧ IsNew w' b0 u' z.natAbs ∧ IsNew w' b0 v' (10 ^ s) ∧ Below w.heap.size w w' := by
  rcases Nat.eq_zero_or_pos s with h | h
  · subst h
    exact decFrac_zero z b0 u w hu hb0 hl
  · exact decFrac_pos z s b0 u w hu hb0 h hs
end Go.Proofs.YthkmgjkajllemaaDoor.Spec

/- Frac.Round of a whole number. -/
namespace Go.Proofs.YthkmgjkajllemaaDoor.Spec
open Go.RowKit Go.Proofs.YthkmgjkajllemaaDoorW.PrintWords Go.Proofs.YthkmgjkajllemaaDoor.Num Go.Proofs.YthkmgjkajllemaaDoor.Str Go.Proofs.YthkmgjkajllemaaDoor.Nats Go.Proofs.YthkmgjkajllemaaDoor.Val Go.Proofs.YthkmgjkajllemaaDoor.Arith Go.Proofs.YthkmgjkajllemaaDoor.NatOps Go.Proofs.YthkmgjkajllemaaDoor.Make
set_option linter.unusedVariables false
set_option linter.unusedSimpArgs false

set_option maxHeartbeats 2000000 in
set_option maxRecDepth 100000 in
/-- Frac.Round of m / 1, which is not 0, to s places: exact. -/
theorem round_whole (m s : Nat) (way : Int) (u v : Value) (w : World) (hu : IsNat w u m) (hv : IsNat w v 1) (hm : 0 < m) (hml : (limbs m).length < 1000) (hs : s < 100) (hl : (limbs (m * 10 ^ s)).length < 1000) :
    Calls Tryd.prog 26 #[.agg #[.bool false, u, v], .int .i64 s, .int .i64 way] w fun e w' => ∃ r, e = .returned (.agg #[.bool false, r, .int .i64 (-(s : Int))]) ∧ IsNew w' w.heap.size r (m * 10 ^ s) ∧ Below w.heap.size w w' := by
  have hpl := limbs_length 12 (10 ^ s) (Nat.lt_of_lt_of_le (Nat.pow_lt_pow_right (by decide) hs) (by decide))
  have hpos : 0 < m * 10 ^ s := Nat.mul_pos hm (Nat.pow_pos (by decide))
  have HP := Lib.hid (fun W => pow10_any s W (by omega))
  have HM := Lib.hid (fun v' W h1 h2 => natMul_any u v' m (10 ^ s) W h1 h2 (by omega) (by omega))
  have HD := Lib.hid (fun u' W h1 h2 => natDiv_short u' v (m * 10 ^ s) 1 W h1 h2 (by omega) (by omega) (by omega) (by omega))
  have HW := Lib.hid (fun r W hr => wholeMk_any false r (m * 10 ^ s) W hr)
  rw [Nat.div_one, Nat.mod_one] at HD
  rw [show (false && decide (0 < m * 10 ^ s)) = false from rfl] at HW
  have HU := Lib.hid (fun (W : World) (hb : Below w.heap.size w W) => hu.below hb)
  have HV := Lib.hid (fun (W : World) (hb : Below w.heap.size w W) => hv.below hb)
  obtain ⟨A, c, rfl, hc, hr⟩ := hu
  obtain ⟨B, cb, rfl, hcb, hrb⟩ := hv
  have hw : IntKind.i64.wrap (-(s : Int)) = -(s : Int) := IntWalk.i64_in _ (by omega)
  have h00 : (limbs 0).length = 0 := by rw [limbs_zero]; rfl
  have HS : Hid (St w ((w.alloc (.cells #[.bool false, .slice A (limbs m).length c, .slice B (limbs 1).length cb] 45)).alloc (.cells #[.bool false, .slice none 0 0, .int .i64 0] 40))
      [(w.heap.size + 1, 0, .bool false), (w.heap.size + 1, 1, .slice none 0 0), (w.heap.size + 1, 2, .int .i64 0), (w.heap.size, 0, .bool false), (w.heap.size, 1, .slice A (limbs m).length c), (w.heap.size, 2, .slice B (limbs 1).length cb)] (w.heap.size + 1) 3) :=
    ⟨Cells.box3 (Cells.box3 (Cells.nil _) rfl _ _ _ _) (by simp) _ _ _ _, fun o _ => free_box (by simp) _ _ _, by simp, ((Below.refl _ _).alloc (Nat.le_refl _) _).alloc (by simp) _⟩
  clear hr hrb hc hcb hm hml hl hpl hpos hs
  go_enter Tryd.func26, Tryd.ntmps26
  go_wp2
  obtain ⟨W, hW⟩ : ∃ W, (w.alloc (.cells #[.bool false, .slice A (limbs m).length c, .slice B (limbs 1).length cb] 45)).alloc (.cells #[.bool false, .slice none 0 0, .int .i64 0] 40) = W := ⟨_, rfl⟩
  rw [hW] at HS ⊢
  clear hW
  obtain ⟨d0, d1, d2, a0, a1, a2, -⟩ := HS.out.cells
  go_quiet (fail)
  have HS1 := Lib.hid (fun k => HS.out.call (pw_below_drewN (n := k) (Below.refl _ W)))
  clear HS
  go_wp2_with (first | (go_at_call 57; go_must (refine (HP.out _).mono ?_); rintro e w2 ⟨r, rfl, hn, hb⟩; have HS2 := Lib.hid ((HS1.out _).call hb); have HG2 := Lib.hid hn; obtain ⟨A2, c2, rfl⟩ := hn.slice; clear hn hb) | (go_at_call 56; go_must (refine (HM.out _ _ (HU.out _ HS2.out.below) HG2.out.isNat).mono ?_); rintro e w3 ⟨r, rfl, hn, hb⟩; have HS3 := Lib.hid (HS2.out.call hb); have HG3 := Lib.hid hn; obtain ⟨A3, c3, rfl⟩ := hn.slice; clear hn hb) | (go_at_call 58; go_must (refine (HD.out _ _ HG3.out.isNat (HV.out _ HS3.out.below)).mono ?_); rintro e w4 ⟨q, r, rfl, hn, hn', hb⟩; have HS4 := Lib.hid (HS3.out.call hb); have HG4 := Lib.hid hn; obtain ⟨A4, c4, rfl⟩ := hn.slice; obtain ⟨A5, c5, rfl⟩ := hn'.slice; clear hn hn' hb))
  obtain ⟨d04, d14, d24, a04, a14, a24, -⟩ := HS4.out.cells
  go_quiet (fail)
  have HS5 := Lib.hid (fun k => HS4.out.call (pw_below_drewN (Below.refl _ w4) k))
  have HG5 := Lib.hid (fun k => HG4.out.below (pw_below_drewN (Below.refl _ w4) k))
  go_wp2_with (first | (go_at_call 62; go_must (refine (HW.out _ _ (HG5.out _).isNat).mono ?_); rintro e w5 ⟨rfl, hb⟩; have HS6 := Lib.hid ((HS5.out _).call hb); have HG6 := Lib.hid ((HG5.out _).below hb); obtain ⟨e0, e1, e2, -⟩ := HS6.out.cells; have f0 := HS6.out.free 0 (by omega); have f1 := HS6.out.free 1 (by omega); have f2 := HS6.out.free 2 (by omega); have hz := HS6.out.lt; clear hb))
  exact bodyPost_ret (v := .agg #[.bool false, .slice A4 (limbs (m * 10 ^ s)).length c4, .int .i64 (-(s : Int))]) (by simp [results, Tryd.results26, go_sem, e0, e1, e2, f0, f1, f2, hz]) rfl ⟨_, rfl, (((HG6.out.set (by exact HS3.out.lt) _).set (by exact HS3.out.lt) _).set (by exact HS3.out.lt) _).lower HS3.out.below.size, ((HS6.out.below.setCell (p := ⟨w.heap.size + 1, 0, none⟩) (Nat.le_succ _) _).setCell (p := ⟨w.heap.size + 1, 1, none⟩) (Nat.le_succ _) _).setCell (p := ⟨w.heap.size + 1, 2, none⟩) (Nat.le_succ _) _⟩
end Go.Proofs.YthkmgjkajllemaaDoor.Spec

/- Decimals of govalues as numbers of the reference. -/
namespace Go.Proofs.YthkmgjkajllemaaDoor.Spec
open Go.RowKit Go.Proofs.YthkmgjkajllemaaDoorW.PrintWords Go.Proofs.YthkmgjkajllemaaDoor.Num Go.Proofs.YthkmgjkajllemaaDoor.Str Go.Proofs.YthkmgjkajllemaaDoor.Nats Go.Proofs.YthkmgjkajllemaaDoor.Val Go.Proofs.YthkmgjkajllemaaDoor.Arith Go.Proofs.YthkmgjkajllemaaDoor.NatOps Go.Proofs.YthkmgjkajllemaaDoor.Make
set_option linter.unusedVariables false
set_option linter.unusedSimpArgs false

/-- The number of a sign and an amount. -/
def fz (neg : Bool) (n : Nat) : Int := if neg then -(n : Int) else n
theorem fz_neg (neg : Bool) (n : Nat) : decide (fz neg n < 0) = (neg && decide (0 < n)) := by
  unfold fz
  cases neg
  · simp
  · rw [if_pos rfl]
    by_cases h : 0 < n
    · simp [h]
    · have : n = 0 := by omega
      subst this
      simp
theorem fz_abs (neg : Bool) (n : Nat) : (fz neg n).natAbs = n := by
  unfold fz
  cases neg <;> simp

set_option maxHeartbeats 2000000 in
set_option maxRecDepth 100000 in
/-- FixDec. -/
theorem fixDec_any (neg : Bool) (n s : Nat) (w : World) (hn : n < 18446744073709551616) (hs : s ≤ 1000) :
    Calls Tryd.prog 65 #[.agg #[.bool neg, .int .u64 n, .int .i64 s]] w fun e w' => ∃ u, e = .returned (.agg #[.bool (decide (fz neg n < 0)), u, .int .i64 (-(s : Int))]) ∧ IsNew w' w.heap.size u n ∧ Below w.heap.size w w' := by
  have HN := Lib.hid (fun W => natFrom_new n W hn)
  have HW := Lib.hid (fun r W hr => wholeMk_any neg r n W hr)
  rw [fz_neg]
  generalize (neg && decide (0 < n)) = x at HW ⊢
  have hw : IntKind.i64.wrap (-(s : Int)) = -(s : Int) := IntWalk.i64_in _ (by omega)
  have HS : Hid (St w ((w.alloc (.cells #[.bool neg, .int .u64 n, .int .i64 s] 32)).alloc (.cells #[.bool false, .slice none 0 0, .int .i64 0] 40))
      [(w.heap.size + 1, 0, .bool false), (w.heap.size + 1, 1, .slice none 0 0), (w.heap.size + 1, 2, .int .i64 0), (w.heap.size, 0, .bool neg), (w.heap.size, 1, .int .u64 n), (w.heap.size, 2, .int .i64 s)] (w.heap.size + 1) 3) :=
    ⟨Cells.box3 (Cells.box3 (Cells.nil _) rfl _ _ _ _) (by simp) _ _ _ _, fun o _ => free_box (by simp) _ _ _, by simp, ((Below.refl _ _).alloc (Nat.le_refl _) _).alloc (by simp) _⟩
  have hne : w.heap.size + 1 ≠ w.heap.size := by omega
  clear hn
  go_enter Tryd.func65, Tryd.ntmps65
  go_wp2
  obtain ⟨W, hW⟩ : ∃ W, (w.alloc (.cells #[.bool neg, .int .u64 n, .int .i64 s] 32)).alloc (.cells #[.bool false, .slice none 0 0, .int .i64 0] 40) = W := ⟨_, rfl⟩
  rw [hW] at HS ⊢
  clear hW
  have HS1 := Lib.hid (HS.out.call (below_drew (Below.refl _ _)))
  clear HS
  go_region_held3 (fun W' => W'.cell? ⟨w.heap.size, 0, none⟩ = some (.bool neg) ∧ W'.cell? ⟨w.heap.size, 1, none⟩ = some (.int .u64 n) ∧ W'.cell? ⟨w.heap.size, 2, none⟩ = some (.int .i64 s))
    (first | exact (by have h := HS3.out.cells.2.2.2; exact ⟨h.1, h.2.1, h.2.2.1⟩) | exact (by have h := HS2.out.cells.2.2.2; exact ⟨h.1, h.2.1, h.2.2.1⟩) | exact (by have h := HS1.out.cells.2.2.2; exact ⟨h.1, h.2.1, h.2.2.1⟩) | go_keep)
    (first | (go_at_call 11; (refine (HN.out _).mono ?_); rintro e w2 ⟨r, rfl, hn, hb⟩; have HS2 := Lib.hid (HS1.out.call hb); have HG2 := Lib.hid hn; obtain ⟨A2, c2, rfl⟩ := hn.slice; clear hn hb) | (go_at_call 62; (refine (HW.out _ _ HG2.out.isNat).mono ?_); rintro e w3 ⟨rfl, hb⟩; have HS3 := Lib.hid (HS2.out.call hb); have HG3 := Lib.hid (HG2.out.below hb); obtain ⟨d0, d1, d2, b0', b1', b2', -⟩ := HS3.out.cells; have f0 := HS3.out.free 0 (by omega); have f1 := HS3.out.free 1 (by omega); have f2 := HS3.out.free 2 (by omega); have hz := HS3.out.lt; clear hb))
  all_goals (go_wp2; exact bodyPost_ret (v := .agg #[.bool x, .slice A2 (limbs n).length c2, .int .i64 (-(s : Int))]) (by simp [results, Tryd.results65, go_sem, d0, d1, d2, f0, f1, f2, hz]) rfl ⟨_, rfl, (((HG3.out.set (by exact HS1.out.lt) _).set (by exact HS1.out.lt) _).set (by exact HS1.out.lt) _).lower HS1.out.below.size, ((HS3.out.below.setCell (p := ⟨w.heap.size + 1, 0, none⟩) (Nat.le_succ _) _).setCell (p := ⟨w.heap.size + 1, 1, none⟩) (Nat.le_succ _) _).setCell (p := ⟨w.heap.size + 1, 2, none⟩) (Nat.le_succ _) _⟩)

set_option maxHeartbeats 2000000 in
set_option maxRecDepth 100000 in
/-- FixNum. -/
theorem fixNum_any (neg : Bool) (n s : Nat) (w : World) (hn : n < 18446744073709551616) (hs : s < 1000) :
    Calls Tryd.prog 66 #[.agg #[.bool neg, .int .u64 n, .int .i64 s]] w fun e w' => ∃ u v, e = .returned (.agg #[.bool (decide (fz neg n < 0)), u, v]) ∧ IsNew w' w.heap.size u n ∧ IsNew w' w.heap.size v (10 ^ s) ∧ Below w.heap.size w w' := by
  have hl := limbs_length 3 n (by omega)
  have HD := Lib.hid (fun W => fixDec_any neg n s W hn (by omega))
  have HF := Lib.hid (fun u b0 W (h1 : IsNew W b0 u n) h2 => decFrac_any (fz neg n) s b0 u W (by rw [fz_abs]; exact h1) h2 hs (by rw [fz_abs]; omega))
  rw [fz_abs] at HF
  generalize decide (fz neg n < 0) = x at HD HF ⊢
  clear hn hl hs
  have HS : Hid (St w ((w.alloc (.cells #[.bool neg, .int .u64 n, .int .i64 s] 32)).alloc (.cells #[.bool false, .slice none 0 0, .slice none 0 0] 45))
      [(w.heap.size + 1, 0, .bool false), (w.heap.size + 1, 1, .slice none 0 0), (w.heap.size + 1, 2, .slice none 0 0), (w.heap.size, 0, .bool neg), (w.heap.size, 1, .int .u64 n), (w.heap.size, 2, .int .i64 s)] (w.heap.size + 1) 3) :=
    ⟨Cells.box3 (Cells.box3 (Cells.nil _) rfl _ _ _ _) (by simp) _ _ _ _, fun o _ => free_box (by simp) _ _ _, by simp, ((Below.refl _ _).alloc (Nat.le_refl _) _).alloc (by simp) _⟩
  go_enter Tryd.func66, Tryd.ntmps66
  go_wp2_with (first | (go_at_call 65; go_must (refine (HD.out _).mono ?_); rintro e w2 ⟨r, rfl, hn, hb⟩; have HS2 := Lib.hid (HS.out.call hb); have HL2 := Lib.hid hb.size; have HG2 := Lib.hid hn; obtain ⟨A2, c2, rfl⟩ := hn.slice; clear hn hb) | (go_at_call 30; go_must (refine (HF.out _ _ _ HG2.out HL2.out).mono ?_); rintro e w3 ⟨u, v, rfl, hn, hn', hb⟩; have HS3 := Lib.hid (HS2.out.call hb); have HG3 := Lib.hid hn; have HG3' := Lib.hid hn'; obtain ⟨A3, c3, rfl⟩ := hn.slice; obtain ⟨A4, c4, rfl⟩ := hn'.slice; obtain ⟨d0, d1, d2, b0', b1', b2', -⟩ := HS3.out.cells; have f0 := HS3.out.free 0 (by omega); have f1 := HS3.out.free 1 (by omega); have f2 := HS3.out.free 2 (by omega); have hz := HS3.out.lt; clear hn hn' hb))
  exact bodyPost_ret (v := .agg #[.bool x, .slice A3 (limbs n).length c3, .slice A4 (limbs (10 ^ s)).length c4]) (by simp [results, Tryd.results66, go_sem, d0, d1, d2, f0, f1, f2, hz]) rfl ⟨_, _, rfl, (((HG3.out.set (by exact HS.out.lt) _).set (by exact HS.out.lt) _).set (by exact HS.out.lt) _).lower HS.out.below.size, (((HG3'.out.set (by exact HS.out.lt) _).set (by exact HS.out.lt) _).set (by exact HS.out.lt) _).lower HS.out.below.size, ((HS3.out.below.setCell (p := ⟨w.heap.size + 1, 0, none⟩) (Nat.le_succ _) _).setCell (p := ⟨w.heap.size + 1, 1, none⟩) (Nat.le_succ _) _).setCell (p := ⟨w.heap.size + 1, 2, none⟩) (Nat.le_succ _) _⟩
end Go.Proofs.YthkmgjkajllemaaDoor.Spec

/- FixIs, FixHas, FixSame. -/
namespace Go.Proofs.YthkmgjkajllemaaDoor.Spec
open Go.RowKit Go.Proofs.YthkmgjkajllemaaDoorW.PrintWords Go.Proofs.YthkmgjkajllemaaDoor.Num Go.Proofs.YthkmgjkajllemaaDoor.Str Go.Proofs.YthkmgjkajllemaaDoor.Nats Go.Proofs.YthkmgjkajllemaaDoor.Val Go.Proofs.YthkmgjkajllemaaDoor.Arith Go.Proofs.YthkmgjkajllemaaDoor.NatOps Go.Proofs.YthkmgjkajllemaaDoor.Make
set_option linter.unusedVariables false
set_option linter.unusedSimpArgs false

theorem fixIs_ok (neg : Bool) (n s : Nat) (w : World) (hn : n ≤ 9999999999999999999) (hs : s ≤ 19) :
    Calls Tryd.prog 20 #[.agg #[.bool neg, .int .u64 n, .int .i64 s]] w fun e w' => e = .returned (.bool true) ∧ Below w.heap.size w w' := by
  have g0 : decide ((n : Int) ≤ 9999999999999999999) = true := decide_eq_true (by omega)
  have g1 : decide ((0 : Int) ≤ (s : Int)) = true := decide_eq_true (by omega)
  have g2 : decide ((s : Int) ≤ 19) = true := decide_eq_true (by omega)
  clear hn hs
  go_enter Tryd.func20, Tryd.ntmps20
  go_wp2
  go_ret
  exact ⟨rfl, (Below.refl _ _).alloc (Nat.le_refl _) _⟩
theorem fixIs_big (neg : Bool) (n : Nat) (s : Int) (w : World) (hn : 9999999999999999999 < n) :
    Calls Tryd.prog 20 #[.agg #[.bool neg, .int .u64 n, .int .i64 s]] w fun e w' => e = .returned (.bool false) ∧ Below w.heap.size w w' := by
  have g0 : decide ((n : Int) ≤ 9999999999999999999) = false := decide_eq_false (by omega)
  clear hn
  go_enter Tryd.func20, Tryd.ntmps20
  go_wp2
  go_ret
  exact ⟨rfl, (Below.refl _ _).alloc (Nat.le_refl _) _⟩
theorem fixIs_scale (neg : Bool) (n : Nat) (s : Int) (w : World) (hn : n ≤ 9999999999999999999) (hs : s < 0 ∨ 19 < s) :
    Calls Tryd.prog 20 #[.agg #[.bool neg, .int .u64 n, .int .i64 s]] w fun e w' => e = .returned (.bool false) ∧ Below w.heap.size w w' := by
  have g0 : decide ((n : Int) ≤ 9999999999999999999) = true := decide_eq_true (by omega)
  clear hn
  by_cases h : s < 0
  · have g1 : decide ((0 : Int) ≤ s) = false := decide_eq_false (by omega)
    clear h hs
    go_enter Tryd.func20, Tryd.ntmps20
    go_wp2
    go_ret
    exact ⟨rfl, (Below.refl _ _).alloc (Nat.le_refl _) _⟩
  · have g1 : decide ((0 : Int) ≤ s) = true := decide_eq_true (by omega)
    have g2 : decide (s ≤ 19) = false := decide_eq_false (by omega)
    clear h hs
    go_enter Tryd.func20, Tryd.ntmps20
    go_wp2
    go_ret
    exact ⟨rfl, (Below.refl _ _).alloc (Nat.le_refl _) _⟩

theorem icmp_zero {p q : Int} (h : p = q) : icmp p q = 0 := by unfold icmp; rw [if_neg (by omega), if_pos h]

set_option maxHeartbeats 4000000 in
set_option maxRecDepth 100000 in
/-- FixHas, where it is so. -/
theorem fixHas_true (neg : Bool) (n s : Nat) (q : Int) (f : Nat) (u v : Value) (w : World) (hn : n ≤ 9999999999999999999) (hs : s ≤ 19) (hneg : neg = true → 0 < n) (hu : IsNat w u q.natAbs) (hv : IsNat w v f)
    (hq : (limbs q.natAbs).length < 1000) (hf : (limbs f).length < 1000) (heq : fz neg n * f = q * (10 ^ s : Nat)) (hl : (limbs (q * ((10 ^ s : Nat) : Int)).natAbs).length < 1000000) :
    Calls Tryd.prog 54 #[.agg #[.bool neg, .int .u64 n, .int .i64 s], .agg #[.bool (decide (q < 0)), u, v]] w fun e w' => e = .returned (.bool true) ∧ Below w.heap.size w w' := by
  have hlt : n < 18446744073709551616 := by omega
  have hn3 := limbs_length 3 n (by omega)
  have hp3 := limbs_length 3 (10 ^ s) (Nat.lt_of_le_of_lt (Nat.pow_le_pow_right (by decide) hs) (by decide))
  have HI := Lib.hid (fun W => fixIs_ok neg n s W hn hs)
  have HN := Lib.hid (fun W => fixNum_any neg n s W hlt (by omega))
  have HC := Lib.hid (fun u' v' W (h1 : IsNat W u' n) h2 h3 h4 => fracCmp_any (fz neg n) q (10 ^ s) f u' v' u v W (by rw [fz_abs]; exact h1) h2 h3 h4 (by rw [fz_abs]; omega) (by omega) hq hf (by rw [heq]; exact hl) hl)
  rw [icmp_zero heq] at HC
  have HU := Lib.hid (fun (W : World) (hb : Below w.heap.size w W) => hu.below hb)
  have HV := Lib.hid (fun (W : World) (hb : Below w.heap.size w W) => hv.below hb)
  obtain ⟨A, c, rfl, hc, hr⟩ := hu
  obtain ⟨B, cb, rfl, hcb, hrb⟩ := hv
  generalize decide (q < 0) = y at *
  generalize decide (fz neg n < 0) = x at *
  generalize (limbs q.natAbs).length = lq at *
  generalize (limbs f).length = lf at *
  have hb : (neg = false) ∨ (neg = true ∧ ((n : Int) == 0) = false ∧ decide ((n : Int) = 0) = false) := by
    cases neg with
    | false => exact .inl rfl
    | true => exact .inr ⟨rfl, beq_eq_false_iff_ne.2 (by have := hneg rfl; omega), decide_eq_false (by have := hneg rfl; omega)⟩
  clear hr hrb hc hcb hlt hn3 hp3 hq hf heq hl hneg hn
  have HS : Hid (St w ((w.alloc (.cells #[.bool neg, .int .u64 n, .int .i64 s] 32)).alloc (.cells #[.bool y, .slice A lq c, .slice B lf cb] 45))
      [(w.heap.size + 1, 0, .bool y), (w.heap.size + 1, 1, .slice A lq c), (w.heap.size + 1, 2, .slice B lf cb), (w.heap.size, 0, .bool neg), (w.heap.size, 1, .int .u64 n), (w.heap.size, 2, .int .i64 s)] (w.heap.size + 1) 3) :=
    ⟨Cells.box3 (Cells.box3 (Cells.nil _) rfl _ _ _ _) (by simp) _ _ _ _, fun o _ => free_box (by simp) _ _ _, by simp, ((Below.refl _ _).alloc (Nat.le_refl _) _).alloc (by simp) _⟩
  rcases hb with rfl | ⟨rfl, h0, h00⟩
  · go_enter Tryd.func54, Tryd.ntmps54
    go_wp2
    obtain ⟨W, hW⟩ : ∃ W, (w.alloc (.cells #[.bool false, .int .u64 n, .int .i64 s] 32)).alloc (.cells #[.bool y, .slice A lq c, .slice B lf cb] 45) = W := ⟨_, rfl⟩
    rw [hW] at HS ⊢
    clear hW
    have HS1 := Lib.hid (HS.out.call (below_drew (Below.refl _ _)))
    clear HS
    obtain ⟨a0, a1, a2, b0, b1, b2, -⟩ := HS1.out.cells
    have a0 : W.cell? _ = _ := a0
    have a1 : W.cell? _ = _ := a1
    have a2 : W.cell? _ = _ := a2
    have b0 : W.cell? _ = _ := b0
    have b1 : W.cell? _ = _ := b1
    have b2 : W.cell? _ = _ := b2
    first | (go_region_with (first | (go_at_call 20; (refine (HI.out _).mono ?_); rintro e w2 ⟨rfl, hb⟩; have HS2 := Lib.hid (HS1.out.call hb); obtain ⟨a02, a12, a22, b02, b12, b22, -⟩ := HS2.out.cells; clear hb) | (go_at_call 66; (refine (HN.out _).mono ?_); rintro e w3 ⟨u', v', rfl, hn, hn', hb⟩; have HS3 := Lib.hid (HS2.out.call hb); have HG3 := Lib.hid hn; have HG3' := Lib.hid hn'; obtain ⟨A3, c3, rfl⟩ := hn.slice; obtain ⟨A4, c4, rfl⟩ := hn'.slice; obtain ⟨a03, a13, a23, b03, b13, b23, -⟩ := HS3.out.cells; clear hn hn' hb) | (go_at_call 36; (refine (HC.out _ _ _ HG3.out.isNat HG3'.out.isNat (HU.out _ HS3.out.below) (HV.out _ HS3.out.below)).mono ?_); rintro e w4 ⟨rfl, hb⟩; have HS4 := Lib.hid (HS3.out.call hb); clear hb))) | fail "no"
    all_goals (go_wp2; go_ret; exact ⟨rfl, HS4.out.below⟩)
  · go_enter Tryd.func54, Tryd.ntmps54
    go_wp2
    obtain ⟨W, hW⟩ : ∃ W, (w.alloc (.cells #[.bool true, .int .u64 n, .int .i64 s] 32)).alloc (.cells #[.bool y, .slice A lq c, .slice B lf cb] 45) = W := ⟨_, rfl⟩
    rw [hW] at HS ⊢
    clear hW
    have HS1 := Lib.hid (HS.out.call (below_drew (Below.refl _ _)))
    clear HS
    go_region_held3 (fun W' => W'.cell? ⟨w.heap.size + 1, 0, none⟩ = some (.bool y) ∧ W'.cell? ⟨w.heap.size + 1, 1, none⟩ = some (.slice A lq c) ∧ W'.cell? ⟨w.heap.size + 1, 2, none⟩ = some (.slice B lf cb) ∧ W'.cell? ⟨w.heap.size, 0, none⟩ = some (.bool true) ∧ W'.cell? ⟨w.heap.size, 1, none⟩ = some (.int .u64 n) ∧ W'.cell? ⟨w.heap.size, 2, none⟩ = some (.int .i64 s))
      (first | exact (by have h := HS4.out.cells; exact ⟨h.1, h.2.1, h.2.2.1, h.2.2.2.1, h.2.2.2.2.1, h.2.2.2.2.2.1⟩) | exact (by have h := HS3.out.cells; exact ⟨h.1, h.2.1, h.2.2.1, h.2.2.2.1, h.2.2.2.2.1, h.2.2.2.2.2.1⟩) | exact (by have h := HS2.out.cells; exact ⟨h.1, h.2.1, h.2.2.1, h.2.2.2.1, h.2.2.2.2.1, h.2.2.2.2.2.1⟩) | exact (by have h := HS1.out.cells; exact ⟨h.1, h.2.1, h.2.2.1, h.2.2.2.1, h.2.2.2.2.1, h.2.2.2.2.2.1⟩) | go_keep)
      (first | (go_at_call 20; (refine (HI.out _).mono ?_); rintro e w2 ⟨rfl, hb⟩; have HS2 := Lib.hid (HS1.out.call hb); clear hb) | (go_at_call 66; (refine (HN.out _).mono ?_); rintro e w3 ⟨u', v', rfl, hn, hn', hb⟩; have HS3 := Lib.hid (HS2.out.call hb); have HG3 := Lib.hid hn; have HG3' := Lib.hid hn'; obtain ⟨A3, c3, rfl⟩ := hn.slice; obtain ⟨A4, c4, rfl⟩ := hn'.slice; clear hn hn' hb) | (go_at_call 36; (refine (HC.out _ _ _ HG3.out.isNat HG3'.out.isNat (HU.out _ HS3.out.below) (HV.out _ HS3.out.below)).mono ?_); rintro e w4 ⟨rfl, hb⟩; have HS4 := Lib.hid (HS3.out.call hb); clear hb))
    all_goals (go_wp2; go_ret; exact ⟨rfl, HS4.out.below⟩)
end Go.Proofs.YthkmgjkajllemaaDoor.Spec

/- FixSame, where it is so. -/
namespace Go.Proofs.YthkmgjkajllemaaDoor.Spec
open Go.RowKit Go.Proofs.YthkmgjkajllemaaDoorW.PrintWords Go.Proofs.YthkmgjkajllemaaDoor.Num Go.Proofs.YthkmgjkajllemaaDoor.Str Go.Proofs.YthkmgjkajllemaaDoor.Nats Go.Proofs.YthkmgjkajllemaaDoor.Val Go.Proofs.YthkmgjkajllemaaDoor.Arith Go.Proofs.YthkmgjkajllemaaDoor.NatOps Go.Proofs.YthkmgjkajllemaaDoor.Make
set_option linter.unusedVariables false
set_option linter.unusedSimpArgs false

set_option maxHeartbeats 4000000 in
set_option maxRecDepth 100000 in
/-- FixSame, where the decimal is the number with its places. -/
theorem fixSame_true (neg : Bool) (n s : Nat) (b0 : Nat) (u : Value) (w : World) (hn : n ≤ 9999999999999999999) (hs : s ≤ 19) (hneg : neg = true → 0 < n) (hu : IsNew w b0 u n) (hb0 : b0 ≤ w.heap.size) :
    Calls Tryd.prog 24 #[.agg #[.bool neg, .int .u64 n, .int .i64 s], .agg #[.bool (decide (fz neg n < 0)), u, .int .i64 (-(s : Int))]] w fun e w' => e = .returned (.bool true) ∧ Below w.heap.size w w' := by
  have hn3 := limbs_length 3 n (by omega)
  have hp3 := limbs_length 3 (10 ^ s) (Nat.lt_of_le_of_lt (Nat.pow_le_pow_right (by decide) hs) (by decide))
  have hq6 := limbs_length 6 (n * 10 ^ s) (by
    have h1 : 10 ^ s < 1000000000 ^ 3 := Nat.lt_of_le_of_lt (Nat.pow_le_pow_right (by decide) hs) (by decide)
    have h2 : n * 10 ^ s ≤ n * 1000000000 ^ 3 := Nat.mul_le_mul_left _ (Nat.le_of_lt h1)
    have h3 : n * 1000000000 ^ 3 < 1000000000 ^ 3 * 1000000000 ^ 3 := Nat.mul_lt_mul_of_pos_right (by omega) (by decide)
    rw [← Nat.pow_add] at h3
    omega)
  have HF := Lib.hid (fun W (h1 : IsNew W b0 u n) h2 => decFrac_any (fz neg n) s b0 u W (by rw [fz_abs]; exact h1) h2 (by omega) (by rw [fz_abs]; omega))
  have HH := Lib.hid (fun u' v' W (h1 : IsNat W u' n) h2 => fixHas_true neg n s (fz neg n) (10 ^ s) u' v' W hn hs hneg (by rw [fz_abs]; exact h1) h2 (by rw [fz_abs]; omega) (by omega) rfl (by rw [Int.natAbs_mul, fz_abs]; simp only [Int.natAbs_natCast]; omega))
  rw [fz_abs] at HF
  generalize decide (fz neg n < 0) = x at *
  have HU := Lib.hid (fun (W : World) (hb : Below w.heap.size w W) => hu.below hb)
  have HB0 := Lib.hid hb0
  obtain ⟨A, c, rfl⟩ := hu.slice
  have hw : IntKind.i64.wrap (s : Int) = (s : Int) := IntWalk.i64_in _ (by omega)
  have hnn : -(-(s : Int)) = (s : Int) := by omega
  clear hu hb0 hn3 hp3 hq6 hn hneg
  have HS : Hid (St w ((w.alloc (.cells #[.bool neg, .int .u64 n, .int .i64 s] 32)).alloc (.cells #[.bool x, .slice A (limbs n).length c, .int .i64 (-(s : Int))] 40))
      [(w.heap.size + 1, 0, .bool x), (w.heap.size + 1, 1, .slice A (limbs n).length c), (w.heap.size + 1, 2, .int .i64 (-(s : Int))), (w.heap.size, 0, .bool neg), (w.heap.size, 1, .int .u64 n), (w.heap.size, 2, .int .i64 s)] (w.heap.size + 1) 3) :=
    ⟨Cells.box3 (Cells.box3 (Cells.nil _) rfl _ _ _ _) (by simp) _ _ _ _, fun o _ => free_box (by simp) _ _ _, by simp, ((Below.refl _ _).alloc (Nat.le_refl _) _).alloc (by simp) _⟩
  go_enter Tryd.func24, Tryd.ntmps24
  go_wp2
  obtain ⟨W, hW⟩ : ∃ W, (w.alloc (.cells #[.bool neg, .int .u64 n, .int .i64 s] 32)).alloc (.cells #[.bool x, .slice A (limbs n).length c, .int .i64 (-(s : Int))] 40) = W := ⟨_, rfl⟩
  rw [hW] at HS ⊢
  clear hW
  have HS1 := Lib.hid (HS.out.call (below_drew (Below.refl _ _)))
  clear HS
  go_region_held3 (fun W' => W'.cell? ⟨w.heap.size + 1, 0, none⟩ = some (.bool x) ∧ W'.cell? ⟨w.heap.size + 1, 1, none⟩ = some (.slice A (limbs n).length c) ∧ W'.cell? ⟨w.heap.size + 1, 2, none⟩ = some (.int .i64 (-(s : Int))) ∧ W'.cell? ⟨w.heap.size, 0, none⟩ = some (.bool neg) ∧ W'.cell? ⟨w.heap.size, 1, none⟩ = some (.int .u64 n) ∧ W'.cell? ⟨w.heap.size, 2, none⟩ = some (.int .i64 s))
    (first | exact (by have h := HS3.out.cells; exact ⟨h.1, h.2.1, h.2.2.1, h.2.2.2.1, h.2.2.2.2.1, h.2.2.2.2.2.1⟩) | exact (by have h := HS2.out.cells; exact ⟨h.1, h.2.1, h.2.2.1, h.2.2.2.1, h.2.2.2.2.1, h.2.2.2.2.2.1⟩) | exact (by have h := HS1.out.cells; exact ⟨h.1, h.2.1, h.2.2.1, h.2.2.2.1, h.2.2.2.2.1, h.2.2.2.2.2.1⟩) | go_keep)
    (first | (go_at_call 30; (refine (HF.out _ (HU.out _ HS1.out.below) (Nat.le_trans HB0.out HS1.out.below.size)).mono ?_); rintro e w2 ⟨u', v', rfl, hn, hn', hb⟩; have HS2 := Lib.hid (HS1.out.call hb); have HG2 := Lib.hid hn; have HG2' := Lib.hid hn'; obtain ⟨A3, c3, rfl⟩ := hn.slice; obtain ⟨A4, c4, rfl⟩ := hn'.slice; clear hn hn' hb) | (go_at_call 54; (refine (HH.out _ _ _ HG2.out.isNat HG2'.out.isNat).mono ?_); rintro e w3 ⟨rfl, hb⟩; have HS3 := Lib.hid (HS2.out.call hb); clear hb))
  all_goals (go_wp2; go_ret; exact ⟨rfl, HS3.out.below⟩)
end Go.Proofs.YthkmgjkajllemaaDoor.Spec

/- The law FnFixNew answers true for every value and scale, where the package's errors lie in memory. -/
namespace Go.Proofs.YthkmgjkajllemaaDoor.FixLike
open Go.RowKit Go.Proofs.YthkmgjkajllemaaDoorW.PrintWords Go.Proofs.YthkmgjkajllemaaDoor.Num Go.Proofs.YthkmgjkajllemaaDoor.Str Go.Proofs.YthkmgjkajllemaaDoor.Nats Go.Proofs.YthkmgjkajllemaaDoor.Make
set_option linter.unusedVariables false
set_option linter.unusedSimpArgs false
attribute [local go_sem high] PFnFixNew.eqA32

/-- The limbs of a value. -/
theorem wholeOf_any (v : Int) (w : World) (h1 : -9223372036854775808 ≤ v) (h2 : v ≤ 9223372036854775807) :
    Calls Tryd.prog 19 #[.int .i64 v] w fun e w' => ∃ u, e = .returned (.agg #[.bool (decide (v < 0)), u]) ∧ IsNew w' w.heap.size u v.natAbs ∧ Below w.heap.size w w' := by
  have HN : Hid (∀ W, Calls Tryd.prog 11 #[.int .u64 (v.natAbs : Nat)] W fun e w' => ∃ u, e = .returned u ∧ IsNew w' W.heap.size u v.natAbs ∧ Below W.heap.size W w') := fun W => natFrom_new v.natAbs W (by omega)
  by_cases h0 : v < 0
  · have hd : decide (v < 0) = true := decide_eq_true h0
    rw [hd]
    have hv1 : v + 1 ≤ 0 := by omega
    have hv3 : 0 ≤ -(v + 1) := by omega
    have HV := Lib.hid (show -(v + 1) + 1 = ((v.natAbs : Nat) : Int) by omega)
    generalize v.natAbs = n at HN HV ⊢
    clear h0
    go_enter Tryd.func19, Tryd.ntmps19
    go_wp2_with fail
    rw [HV.out]
    refine (HN.out _).mono ?_
    rintro e w1 ⟨u, rfl, hn, hb⟩
    obtain ⟨A, c, rfl⟩ := hn.slice
    obtain ⟨⟨c0, c1, f0, f1, hz⟩, hb1⟩ := made2 hb
    have HB := Lib.hid hb1
    have HI := Lib.hid hn
    clear hb hb1 hn
    go_wp2
    exact bodyPost_ret (v := .agg #[.bool true, .slice A (limbs n).length c]) (by simp [results, Tryd.results19, go_sem, c0, c1, f0, f1, hz]) rfl ⟨_, rfl, ((HI.out.set (by simp) _).set (by simp) _).lower (by simp), (HB.out.setCell (Nat.le_refl _) _).setCell (Nat.le_refl _) _⟩
  · have hd : decide (v < 0) = false := decide_eq_false h0
    rw [hd]
    obtain ⟨n, rfl⟩ := Int.eq_ofNat_of_zero_le (show 0 ≤ v by omega)
    rw [show ((n : Int).natAbs) = n by omega] at HN ⊢
    clear h0
    go_enter Tryd.func19, Tryd.ntmps19
    go_wp2_with fail
    refine (HN.out _).mono ?_
    rintro e w1 ⟨u, rfl, hn, hb⟩
    obtain ⟨A, c, rfl⟩ := hn.slice
    obtain ⟨⟨c0, c1, f0, f1, hz⟩, hb1⟩ := made2 hb
    have HB := Lib.hid hb1
    have HI := Lib.hid hn
    clear hb hb1 hn
    go_wp2
    exact bodyPost_ret (v := .agg #[.bool false, .slice A (limbs n).length c]) (by simp [results, Tryd.results19, go_sem, c0, c1, f0, f1, hz]) rfl ⟨_, rfl, ((HI.out.set (by simp) _).set (by simp) _).lower (by simp), (HB.out.setCell (Nat.le_refl _) _).setCell (Nat.le_refl _) _⟩

set_option maxHeartbeats 1000000 in
/-- The parts of a number as it is written. -/
theorem fixOf_any (neg : Bool) (u : Value) (n s : Nat) (w : World) (hu : IsNat w u n) (hn : n ≤ 9999999999999999999) (hs : s ≤ 19) :
    Calls Tryd.prog 46 #[.agg #[.bool neg, u, .int .i64 (-(s : Int))]] w fun e w' => e = .returned (.tuple #[.agg #[.bool neg, .int .u64 n, .int .i64 s], .bool true]) ∧ Below w.heap.size w w' := by
  have hl3 : (limbs n).length ≤ 3 := limbs_length 3 n (by omega)
  have hdg : (decs n).length ≤ 19 := decs_length 19 n (by omega)
  have HD := Aside0.mk (natDigits_any n)
  have HN := Aside0.mk hn
  obtain ⟨A, c, rfl, hc, hr⟩ := hu
  have HU : Aside0 (IsNat w (.slice A (limbs n).length c) n) := ⟨⟨A, c, rfl, hc, hr⟩⟩
  have HR := Aside0.mk hr
  clear hr hn
  generalize hm : (decs n).length = m at hdg HD
  clear hm
  have g0 : decide ((0 : Int) < -(s : Int)) = false := decide_eq_false (by omega)
  have g1 : decide (-(s : Int) < -19) = false := decide_eq_false (by omega)
  have g2 : decide ((19 : Int) < m) = false := decide_eq_false (by omega)
  go_enter Tryd.func46, Tryd.ntmps46
  go_wp2_with (first | (go_at_call 13; refine (HD.out _ _ (HU.out.below (below_at (below_at (Below.refl _ _) _) _)) (by omega)).mono ?_; rintro e w1 ⟨rfl, hb⟩; have hb1 := below_one _ hb; have H2 := (C3.new w (.bool neg) (.slice A (limbs n).length c) (.int .i64 (-(s : Int))) 40).below hb1; have H3 := Lib.hid (made3 hb).1; have HB := Lib.hid (below_one _ hb1); obtain ⟨c0, c1, c2, f0, f1, f2, hz⟩ := H2; clear hb hb1))
  go_loop [4, 5] (fun v4 v5 => ∃ j : Nat, j ≤ (limbs n).length ∧ v5 = .int .i64 ((j : Int) - 1) ∧ v4 = .int .u64 (rest n j)) (fun _ v5 => (intOf v5 + 1).toNat)
  case atStart => exact ⟨(limbs n).length, Nat.le_refl _, rfl, by
    have : rest n (limbs n).length = 0 := by
      rcases Nat.eq_zero_or_pos (rest n (limbs n).length) with h | h
      · exact h
      · exact absurd ((rest_pos n _).2 h) (Nat.lt_irrefl _)
    rw [this]; rfl⟩
  case round =>
    obtain ⟨j, hj, rfl, rfl⟩ := hrel
    cases j with
    | succ j =>
      obtain ⟨hx, hpos⟩ := limbs_at n j (by omega)
      obtain ⟨ad, e0, hc0⟩ := Kd.at_int HR.out (j : Int) (by omega) (by omega)
      have hc1 := (HB.out.cell (World.block_lt_of_cell? w _ hc0)).trans hc0
      unfold rd at hc1
      rw [Int.toNat_natCast, hx] at hc1
      subst e0
      have hr1 := rest_succ n j
      have hrn : rest n j ≤ n := Nat.div_le_self _ _
      have hnn := HN.out
      obtain ⟨x, hx2⟩ : ∃ x, rest n j % 1000000000 = x := ⟨_, rfl⟩
      obtain ⟨q, hq2⟩ : ∃ q, rest n (j + 1) = q := ⟨_, rfl⟩
      rw [hx2] at hc1
      rw [hq2] at hr1 ⊢
      have hb1 : x < 1000000000 := by omega
      have hb2 : q ≤ 9999999999 := by omega
      have HV := Lib.hid (show (q : Int) * 1000000000 + x = (rest n j : Nat) by omega)
      have hv : ((j + 1 : Nat) : Int) - 1 = j := by omega
      rw [hv]
      clear hv hx hpos hc0 hr1 hrn hnn hx2 hq2
      go_wp2
      go_round
      case rel => exact ⟨j, by omega, rfl, by rw [HV.out]⟩
      case measure => simp [intOf]
    | zero =>
      have hv : ((0 : Nat) : Int) - 1 = -1 := rfl
      rw [rest_zero, hv]
      clear hv
      obtain ⟨d0, d1, d2, e0, e1, e2, hz2⟩ := H3.out
      rw [show (w.alloc (.cells #[.bool neg, .slice A (limbs n).length c, .int .i64 (-(s : Int))] 40)).heap.size = w.heap.size + 1 by simp] at d0 d1 d2 e0 e1 e2 hz2
      go_wp2
      exact bodyPost_ret (v := .tuple #[.agg #[.bool neg, .int .u64 n, .int .i64 s], .bool true]) (by simp [results, Tryd.results46, go_sem, d0, d1, d2, e0, e1, e2, hz2]) rfl ⟨rfl, ((HB.out.setCell (by simp) _).setCell (by simp) _).setCell (by simp) _⟩

/-- A decimal that is a number as it is written. -/
theorem fixLike_any (b : Bool) (m k : Nat) (neg : Bool) (u : Value) (n s : Nat) (w : World) (hu : IsNat w u n) (hn : n ≤ 9999999999999999999) (hs : s ≤ 19) :
    Calls Tryd.prog 18 #[.agg #[.bool b, .int .u64 m, .int .i64 k], .agg #[.bool neg, u, .int .i64 (-(s : Int))]] w fun e w' =>
      e = .returned (.bool ((b == neg) && ((m : Int) == n && ((k : Int) == s)))) ∧ Below w.heap.size w w' := by
  have HF := Lib.hid (fun W hW => fixOf_any neg u n s W hW hn hs)
  have HU : Hid (∀ o1 o2, IsNat ((w.alloc o1).alloc o2) u n) := fun o1 o2 => hu.below (below_at (below_at (Below.refl _ _) _) _)
  obtain ⟨A, c, rfl, hc, hr⟩ := hu
  clear hr hn
  go_enter Tryd.func18, Tryd.ntmps18
  go_wp2_with (first | (go_at_call 46; refine (HF.out _ (HU.out _ _)).mono ?_; rintro e w1 ⟨rfl, hb⟩; have hb1 := below_one _ hb; have H2 := (C3.new w (.bool b) (.int .u64 m) (.int .i64 k) 32).below hb1; have HB := Lib.hid (below_one _ hb1); obtain ⟨c0, c1, c2, f0, f1, f2, hz⟩ := H2; clear hb hb1))
  go_ret
  exact ⟨rfl, below_at HB.out _⟩

/-- Below, closed to the walk. -/
def Bel (w w' : World) : Prop := Below w.heap.size w w'
theorem Bel.by_ {w w1 w2 : World} (h : Bel w w1) (k : Below w1.heap.size w1 w2) : Bel w w2 := below_by h k
theorem Bel.drew {w w1 : World} (h : Bel w w1) : Bel w w1.drew := below_drew h

/-- What is held of a decimal in memory is held behind a call. -/
theorem held_call {w w1 w2 : World} {g : Nat} {a b c : Value} (h : w1.cell? ⟨g, 0, none⟩ = some a ∧ w1.cell? ⟨g, 1, none⟩ = some b ∧ w1.cell? ⟨g, 2, none⟩ = some c ∧ Bel w w1) (hb : Below w1.heap.size w1 w2) :
    w2.cell? ⟨g, 0, none⟩ = some a ∧ w2.cell? ⟨g, 1, none⟩ = some b ∧ w2.cell? ⟨g, 2, none⟩ = some c ∧ Bel w w2 :=
  ⟨pw_cell_below hb h.1, pw_cell_below hb h.2.1, pw_cell_below hb h.2.2.1, h.2.2.2.by_ hb⟩

set_option maxHeartbeats 600000 in
set_option maxRecDepth 100000 in
theorem law_ok (v : Int) (s : Nat) (w : World) (hs : s ≤ 19) (h1 : -9223372036854775808 ≤ v) (h2 : v ≤ 9223372036854775807) :
    Calls Tryd.prog 4 #[.int .i64 v, .int .i64 s] w fun e w' => e = .returned (.bool true) ∧ Below w.heap.size w w' := by
  have HF := Lib.hid (fixNew_ok v s w hs h1 h2)
  have HW := Lib.hid (fun W => wholeOf_any v W h1 h2)
  have HL := Lib.hid (fun b u W hW => fixLike_any b v.natAbs s b u v.natAbs s W hW (by omega) hs)
  have hv1 : v.natAbs ≤ 9223372036854775808 := by omega
  generalize decide (v < 0) = b at HF HW
  generalize v.natAbs = n at HF HW HL hv1
  simp only [BEq.rfl, Bool.and_self] at HL
  have g0 : decide ((s : Int) < 0) = false := decide_eq_false (by omega)
  have g1 : decide ((19 : Int) < s) = false := decide_eq_false (by omega)
  have hw : IntKind.i64.wrap (-(s : Int)) = -(s : Int) := IntWalk.i64_in _ (by omega)
  go_enter Tryd.func4, Tryd.ntmps4
  go_wp2_with (first | (go_at_call 17; refine HF.out.mono ?_; rintro e w1 ⟨rfl, hb⟩; have HB : Bel w w1 := hb; clear hb))
  go_region_with (first | (go_at_call 19; refine (HW.out _).mono ?_; rintro e w2 ⟨u, rfl, hn, hb⟩; obtain ⟨A, c, rfl⟩ := hn.slice; have HI := Lib.hid hn; have HB2 := Bel.by_ (Bel.drew (HB.by_ (below_at (Below.refl _ _) (.cells #[.bool b, .int .u64 n, .int .i64 s] 32)))) hb; obtain ⟨k0, k1, k2, _, _, _, hz⟩ := (((C3.new w1 (.bool b) (.int .u64 n) (.int .i64 s) 32).below (below_drew (Below.refl _ _))).below hb); clear hn hb) | (go_at_call 18; refine (HL.out _ _ _ HI.out.isNat).mono ?_; rintro e w3 ⟨rfl, hb⟩; have HB3 := Bel.by_ HB2 hb; clear hb))
  all_goals (go_wp2; go_ret; exact ⟨rfl, HB3⟩)

set_option maxHeartbeats 600000 in
theorem law_bad (v s : Int) (w : World) (hs : s < 0 ∨ 19 < s) (h1 : -9223372036854775808 ≤ v) (h2 : v ≤ 9223372036854775807) (he : ErrAt w) :
    Calls Tryd.prog 4 #[.int .i64 v, .int .i64 s] w fun e w' => e = .returned (.bool true) ∧ Below w.heap.size w w' := by
  have HF := Lib.hid (fixNew_bad v s w hs h1 h2 he)
  clear he
  by_cases h0 : s < 0
  · have g0 : decide (s < 0) = true := decide_eq_true h0
    clear h0 hs
    go_enter Tryd.func4, Tryd.ntmps4
    go_wp2_with (first | (go_at_call 17; refine HF.out.mono ?_; rintro e w1 ⟨rfl, hb⟩; have HB : Bel w w1 := hb; clear hb))
    go_ret
    exact ⟨rfl, below_at HB _⟩
  · have g0 : decide (s < 0) = false := decide_eq_false h0
    have g1 : decide (19 < s) = true := decide_eq_true (by omega)
    clear h0 hs
    go_enter Tryd.func4, Tryd.ntmps4
    go_wp2_with (first | (go_at_call 17; refine HF.out.mono ?_; rintro e w1 ⟨rfl, hb⟩; have HB : Bel w w1 := hb; clear hb))
    go_ret
    exact ⟨rfl, below_at HB _⟩

/-- The law, for every value and scale. -/
theorem law_any (v s : Int) (w : World) (h1 : -9223372036854775808 ≤ v) (h2 : v ≤ 9223372036854775807) (he : ErrAt w) :
    Calls Tryd.prog 4 #[.int .i64 v, .int .i64 s] w fun e w' => e = .returned (.bool true) ∧ Below w.heap.size w w' := by
  by_cases hs : s < 0 ∨ 19 < s
  · exact law_bad v s w hs h1 h2 he
  · obtain ⟨n, rfl⟩ := Int.eq_ofNat_of_zero_le (show 0 ≤ s by omega)
    exact law_ok v n w (by omega) h1 h2
end Go.Proofs.YthkmgjkajllemaaDoor.FixLike

/- spec.Int: a whole number as a fraction. -/
namespace Go.Proofs.YthkmgjkajllemaaDoor.Spec
open Go.RowKit Go.Proofs.YthkmgjkajllemaaDoorW.PrintWords Go.Proofs.YthkmgjkajllemaaDoor.Num Go.Proofs.YthkmgjkajllemaaDoor.Str Go.Proofs.YthkmgjkajllemaaDoor.Nats Go.Proofs.YthkmgjkajllemaaDoor.Val Go.Proofs.YthkmgjkajllemaaDoor.Arith Go.Proofs.YthkmgjkajllemaaDoor.NatOps Go.Proofs.YthkmgjkajllemaaDoor.Make
set_option linter.unusedVariables false
set_option linter.unusedSimpArgs false

set_option maxHeartbeats 1000000 in
theorem int_any (x : Int) (w : World) (h1 : -9223372036854775808 ≤ x) (h2 : x ≤ 9223372036854775807) :
    Calls Tryd.prog 25 #[.int .i64 x] w fun e w' => ∃ u v, e = .returned (.agg #[.bool (decide (x < 0)), u, v]) ∧ IsNew w' w.heap.size u x.natAbs ∧ IsNew w' w.heap.size v 1 ∧ Below w.heap.size w w' := by
  have HW := Lib.hid (fun W => FixLike.wholeOf_any x W h1 h2)
  have HO := Lib.hid (fun W => one_any W)
  generalize decide (x < 0) = b at HW ⊢
  generalize x.natAbs = m at HW ⊢
  have HS : Hid (St w (w.alloc (.cells #[.bool false, .slice none 0 0, .slice none 0 0] 45))
      [(w.heap.size, 0, .bool false), (w.heap.size, 1, .slice none 0 0), (w.heap.size, 2, .slice none 0 0)] w.heap.size 3) :=
    ⟨Cells.box3 (Cells.nil _) rfl _ _ _ _, fun o _ => free_box rfl _ _ _, by simp, (Below.refl _ _).alloc (Nat.le_refl _) _⟩
  go_enter Tryd.func25, Tryd.ntmps25
  go_wp2_with (first | (go_at_call 19; go_must (refine (HW.out _).mono ?_); rintro e w2 ⟨r, rfl, hn, hb⟩; have HS2 := Lib.hid (HS.out.call hb); have HG2 := Lib.hid hn; obtain ⟨A2, c2, rfl⟩ := hn.slice; clear hn hb) | (go_at_call 55; go_must (refine (HO.out _).mono ?_); rintro e w3 ⟨r, rfl, hn, hb⟩; have HS3 := Lib.hid (HS2.out.call hb); have HG3 := Lib.hid (HG2.out.below hb); have HG3' := Lib.hid hn; obtain ⟨A3, c3, rfl⟩ := hn.slice; obtain ⟨d0, d1, d2, -⟩ := HS3.out.cells; have f0 := HS3.out.free 0 (by omega); have f1 := HS3.out.free 1 (by omega); have f2 := HS3.out.free 2 (by omega); have hz := HS3.out.lt; clear hn hb))
  exact bodyPost_ret (v := .agg #[.bool b, .slice A2 (limbs m).length c2, .slice A3 (limbs 1).length c3]) (by simp [results, Tryd.results25, go_sem, d0, d1, d2, f0, f1, f2, hz]) rfl ⟨_, _, rfl, (((HG3.out.set (by exact HS.out.lt) _).set (by exact HS.out.lt) _).set (by exact HS.out.lt) _).lower HS.out.below.size, (((HG3'.out.set (by exact HS2.out.lt) _).set (by exact HS2.out.lt) _).set (by exact HS2.out.lt) _).lower HS2.out.below.size, ((HS3.out.below.setCell (p := ⟨w.heap.size, 0, none⟩) (Nat.le_refl _) _).setCell (p := ⟨w.heap.size, 1, none⟩) (Nat.le_refl _) _).setCell (p := ⟨w.heap.size, 2, none⟩) (Nat.le_refl _) _⟩
end Go.Proofs.YthkmgjkajllemaaDoor.Spec

/- The law FnFixUnits answers true for every decimal with at most 18 places. -/
namespace Go.Proofs.YthkmgjkajllemaaDoor.Spec
open Go.RowKit Go.Proofs.YthkmgjkajllemaaDoorW.PrintWords Go.Proofs.YthkmgjkajllemaaDoor.Num Go.Proofs.YthkmgjkajllemaaDoor.Str Go.Proofs.YthkmgjkajllemaaDoor.Nats Go.Proofs.YthkmgjkajllemaaDoor.Val Go.Proofs.YthkmgjkajllemaaDoor.Arith Go.Proofs.YthkmgjkajllemaaDoor.NatOps Go.Proofs.YthkmgjkajllemaaDoor.Make Go.Proofs.YthkmgjkajllemaaDoor.Fint
set_option linter.unusedVariables false
set_option linter.unusedSimpArgs false

theorem St.push {w W : World} {l : List (Nat × Nat × Value)} {g k : Nat} (h : St w W l g k) (u v x : Value) (T : TypeId) :
    St w (W.alloc (.cells #[u, v, x] T)) ((W.heap.size, 0, u) :: (W.heap.size, 1, v) :: (W.heap.size, 2, x) :: l) g k :=
  have hb : Below W.heap.size W (W.alloc (.cells #[u, v, x] T)) := (Below.refl _ _).alloc (Nat.le_refl _) _
  ⟨Cells.box3 h.cells rfl _ _ _ _, (h.call hb).free, (h.call hb).lt, (h.call hb).below⟩
theorem nil_new (w : World) (b : Nat) : IsNew w b (.slice none 0 0) 0 := by
  unfold IsNew
  rw [limbs_zero]
  exact V_of_R (ok := fun _ => True) (Kd.R_nil _ _ _ _ _)

set_option maxHeartbeats 4000000 in
set_option maxRecDepth 100000 in
theorem units_ok (neg : Bool) (n s c : Nat) (w : World) (hs : s ≤ 18) (hn : n ≤ 9999999999999999999) (hp : w.cell? ⟨0, s, none⟩ = some (.int .u64 c)) (hc : c = 10 ^ s) :
    Calls Tryd.prog 5 #[.agg #[.bool neg, .int .u64 n, .int .i64 s]] w fun e w' => e = .returned (.bool true) ∧ Below w.heap.size w w' := by
  have hcp : 0 < c := by rw [hc]; exact Nat.pow_pos (by decide)
  have hcl : c ≤ 10 ^ 18 := by rw [hc]; exact Nat.pow_le_pow_right (by decide) hs
  have HI := Lib.hid (fun W => fixIs_ok neg n s W hn (by omega))
  have H0 := Lib.hid (fun W => fixZero_ok neg n s W (by omega) hn)
  have H1 := Lib.hid (fun W hW => fixOne_ok neg n s c W (by omega) hn hW hcp)
  have HU := Lib.hid (fun W => fixUlp_ok neg n s W (by omega) hn)
  have HS0 := Lib.hid (fun W => fixSame_true false 0 s W.heap.size (.slice none 0 0) W (by omega) (by omega) (fun h => by cases h) (nil_new _ _) (Nat.le_refl _))
  have HS1 := Lib.hid (fun u b0 W h1 h2 => fixSame_true false c s b0 u W (by omega) (by omega) (fun h => by cases h) h1 h2)
  have HS2 := Lib.hid (fun u b0 W h1 h2 => fixSame_true false 1 s b0 u W (by omega) (by omega) (fun h => by cases h) h1 h2)
  have HN := Lib.hid (fun W => int_any 1 W (by omega) (by omega))
  have HW := Lib.hid (fun W => FixLike.wholeOf_any 1 W (by omega) (by omega))
  have HR := Lib.hid (fun u v W h1 h2 => round_whole 1 s 5 u v W h1 h2 (by omega) (by rw [limbs_one 1 (by omega) (by omega)]; simp) (by omega) (by rw [Nat.one_mul, ← hc]; exact Nat.lt_of_le_of_lt (limbs_length 3 c (by omega)) (by decide)))
  rw [Nat.one_mul, ← hc] at HR
  rw [show decide (fz false 0 < 0) = false from rfl, show ((0 : Nat) : Int) = 0 from rfl] at HS0
  rw [show decide (fz false c < 0) = false by rw [fz_neg]; rfl] at HS1
  rw [show decide (fz false 1 < 0) = false from rfl, show ((1 : Nat) : Int) = 1 from rfl] at HS2
  rw [show decide ((1 : Int) < 0) = false from rfl, show (1 : Int).natAbs = 1 from rfl] at HN HW
  have HP := Lib.hid hp
  have g0 : decide ((18 : Int) < (s : Int)) = false := decide_eq_false (by omega)
  have hw : IntKind.i64.wrap (-(s : Int)) = -(s : Int) := IntWalk.i64_in _ (by omega)
  have HB : Hid (St w (w.alloc (.cells #[.bool neg, .int .u64 n, .int .i64 s] 32)) [(w.heap.size, 0, .bool neg), (w.heap.size, 1, .int .u64 n), (w.heap.size, 2, .int .i64 s)] w.heap.size 0) :=
    ⟨Cells.box3 (Cells.nil _) rfl _ _ _ _, fun o ho => absurd ho (by omega), by simp, (Below.refl _ _).alloc (Nat.le_refl _) _⟩
  clear hs hn hp hc hcp hcl
  go_enter Tryd.func5, Tryd.ntmps5
  go_wp2_with (first | (go_at_call 20; go_must (refine (HI.out _).mono ?_); rintro r w1 ⟨rfl, hb⟩; have HB1 := Lib.hid (HB.out.call hb); obtain ⟨a0, a1, a2, -⟩ := HB1.out.cells; clear hb) | (go_at_call 21; go_must (refine (H0.out _).mono ?_); rintro r w2 ⟨rfl, hb⟩; have HB2 := Lib.hid ((HB1.out.call hb).push (.bool false) (.int .u64 0) (.int .i64 s) 32); obtain ⟨_, _, _, c0, c1, c2, -⟩ := HB2.out.cells; clear hb) | (go_at_call 22; go_must (refine (H1.out _ (pw_cell_below HB2.out.below HP.out)).mono ?_); rintro r w3 ⟨rfl, hb⟩; have HB3 := Lib.hid ((HB2.out.call hb).push (.bool false) (.int .u64 c) (.int .i64 s) 32); obtain ⟨_, _, _, _, _, _, b0, b1, b2, -⟩ := HB3.out.cells; clear hb) | (go_at_call 23; go_must (refine (HU.out _).mono ?_); rintro r w4 ⟨rfl, hb⟩; have HB4 := Lib.hid ((HB3.out.call hb).push (.bool false) (.int .u64 1) (.int .i64 s) 32); clear hb))
  obtain ⟨W, hW⟩ : ∃ W, w4.alloc (.cells #[.bool false, .int .u64 1, .int .i64 s] 32) = W := ⟨_, rfl⟩
  obtain ⟨b7, hb7⟩ : ∃ b7, w4.heap.size = b7 := ⟨_, rfl⟩
  obtain ⟨b5, hb5⟩ : ∃ b5, w3.heap.size = b5 := ⟨_, rfl⟩
  obtain ⟨b3, hb3⟩ : ∃ b3, w2.heap.size = b3 := ⟨_, rfl⟩
  rw [hW, hb7, hb5, hb3] at HB4
  rw [hW, hb7, hb5, hb3]
  clear hW hb7 hb5 hb3 HB HB1 HB2 HB3 a0 a1 a2 c0 c1 c2 b0 b1 b2 HI H0 H1 HU HP
  have HD0 := Lib.hid (HB4.out.call (below_drew (Below.refl _ _)))
  clear HB4
  go_region_held3 (fun W' => W'.cell? ⟨b7, 0, none⟩ = some (.bool false) ∧ W'.cell? ⟨b7, 1, none⟩ = some (.int .u64 1) ∧ W'.cell? ⟨b7, 2, none⟩ = some (.int .i64 s) ∧ W'.cell? ⟨b5, 0, none⟩ = some (.bool false) ∧ W'.cell? ⟨b5, 1, none⟩ = some (.int .u64 c) ∧ W'.cell? ⟨b5, 2, none⟩ = some (.int .i64 s) ∧ W'.cell? ⟨b3, 0, none⟩ = some (.bool false) ∧ W'.cell? ⟨b3, 1, none⟩ = some (.int .u64 0) ∧ W'.cell? ⟨b3, 2, none⟩ = some (.int .i64 s) ∧ W'.cell? ⟨w.heap.size, 0, none⟩ = some (.bool neg) ∧ W'.cell? ⟨w.heap.size, 1, none⟩ = some (.int .u64 n) ∧ W'.cell? ⟨w.heap.size, 2, none⟩ = some (.int .i64 s))
    (first | exact (by have h := HD6.out.cells; exact ⟨h.1, h.2.1, h.2.2.1, h.2.2.2.1, h.2.2.2.2.1, h.2.2.2.2.2.1, h.2.2.2.2.2.2.1, h.2.2.2.2.2.2.2.1, h.2.2.2.2.2.2.2.2.1, h.2.2.2.2.2.2.2.2.2.1, h.2.2.2.2.2.2.2.2.2.2.1, h.2.2.2.2.2.2.2.2.2.2.2.1⟩) | exact (by have h := HD5.out.cells; exact ⟨h.1, h.2.1, h.2.2.1, h.2.2.2.1, h.2.2.2.2.1, h.2.2.2.2.2.1, h.2.2.2.2.2.2.1, h.2.2.2.2.2.2.2.1, h.2.2.2.2.2.2.2.2.1, h.2.2.2.2.2.2.2.2.2.1, h.2.2.2.2.2.2.2.2.2.2.1, h.2.2.2.2.2.2.2.2.2.2.2.1⟩) | exact (by have h := HD4.out.cells; exact ⟨h.1, h.2.1, h.2.2.1, h.2.2.2.1, h.2.2.2.2.1, h.2.2.2.2.2.1, h.2.2.2.2.2.2.1, h.2.2.2.2.2.2.2.1, h.2.2.2.2.2.2.2.2.1, h.2.2.2.2.2.2.2.2.2.1, h.2.2.2.2.2.2.2.2.2.2.1, h.2.2.2.2.2.2.2.2.2.2.2.1⟩) | exact (by have h := HD3.out.cells; exact ⟨h.1, h.2.1, h.2.2.1, h.2.2.2.1, h.2.2.2.2.1, h.2.2.2.2.2.1, h.2.2.2.2.2.2.1, h.2.2.2.2.2.2.2.1, h.2.2.2.2.2.2.2.2.1, h.2.2.2.2.2.2.2.2.2.1, h.2.2.2.2.2.2.2.2.2.2.1, h.2.2.2.2.2.2.2.2.2.2.2.1⟩) | exact (by have h := HD2.out.cells; exact ⟨h.1, h.2.1, h.2.2.1, h.2.2.2.1, h.2.2.2.2.1, h.2.2.2.2.2.1, h.2.2.2.2.2.2.1, h.2.2.2.2.2.2.2.1, h.2.2.2.2.2.2.2.2.1, h.2.2.2.2.2.2.2.2.2.1, h.2.2.2.2.2.2.2.2.2.2.1, h.2.2.2.2.2.2.2.2.2.2.2.1⟩) | exact (by have h := HD1.out.cells; exact ⟨h.1, h.2.1, h.2.2.1, h.2.2.2.1, h.2.2.2.2.1, h.2.2.2.2.2.1, h.2.2.2.2.2.2.1, h.2.2.2.2.2.2.2.1, h.2.2.2.2.2.2.2.2.1, h.2.2.2.2.2.2.2.2.2.1, h.2.2.2.2.2.2.2.2.2.2.1, h.2.2.2.2.2.2.2.2.2.2.2.1⟩) | exact (by have h := HD0.out.cells; exact ⟨h.1, h.2.1, h.2.2.1, h.2.2.2.1, h.2.2.2.2.1, h.2.2.2.2.2.1, h.2.2.2.2.2.2.1, h.2.2.2.2.2.2.2.1, h.2.2.2.2.2.2.2.2.1, h.2.2.2.2.2.2.2.2.2.1, h.2.2.2.2.2.2.2.2.2.2.1, h.2.2.2.2.2.2.2.2.2.2.2.1⟩) | go_keep)
    (first | (go_at_call 24; (with_reducible refine (HS0.out _).mono ?_); rintro r w1 ⟨rfl, hb⟩; have HD1 := Lib.hid (HD0.out.call hb); clear hb) | (go_at_call 25; (refine (HN.out _).mono ?_); rintro r w2 ⟨u, v, rfl, hn, hn', hb⟩; have HD2 := Lib.hid (HD1.out.call hb); have HG2 := Lib.hid hn.isNat; have HG2' := Lib.hid hn'.isNat; obtain ⟨A2, c2, rfl⟩ := hn.slice; obtain ⟨A2', c2', rfl⟩ := hn'.slice; clear hn hn' hb) | (go_at_call 26; (refine (HR.out _ _ _ HG2.out HG2'.out).mono ?_); rintro r w3 ⟨u, rfl, hn, hb⟩; have HD3 := Lib.hid (HD2.out.call hb); have HL3 := Lib.hid hb.size; have HG3 := Lib.hid hn; obtain ⟨A3, c3, rfl⟩ := hn.slice; clear hn hb) | (go_at_call 24; (with_reducible refine (HS1.out _ _ _ HG3.out HL3.out).mono ?_); rintro r w4 ⟨rfl, hb⟩; have HD4 := Lib.hid (HD3.out.call hb); clear hb) | (go_at_call 19; (refine (HW.out _).mono ?_); rintro r w5 ⟨u, rfl, hn, hb⟩; have HD5 := Lib.hid (HD4.out.call hb); have HL5 := Lib.hid hb.size; have HG5 := Lib.hid hn; obtain ⟨A5, c5, rfl⟩ := hn.slice; clear hn hb) | (go_at_call 24; (with_reducible refine (HS2.out _ _ _ HG5.out HL5.out).mono ?_); rintro r w6 ⟨rfl, hb⟩; have HD6 := Lib.hid (HD5.out.call hb); clear hb))
  all_goals (go_wp2; go_ret; exact ⟨rfl, HD6.out.below⟩)

theorem units_bad (neg : Bool) (n : Nat) (z : Int) (w : World) (h : 9999999999999999999 < n ∨ z < 0 ∨ 19 < z) :
    Calls Tryd.prog 5 #[.agg #[.bool neg, .int .u64 n, .int .i64 z]] w fun e w' => e = .returned (.bool true) ∧ Below w.heap.size w w' := by
  have HI : Hid (∀ W, Calls Tryd.prog 20 #[.agg #[.bool neg, .int .u64 n, .int .i64 z]] W fun e w' => e = .returned (.bool false) ∧ Below W.heap.size W w') := by
    refine Lib.hid (fun W => ?_)
    by_cases hn : 9999999999999999999 < n
    · exact fixIs_big neg n z W hn
    · exact fixIs_scale neg n z W (by omega) (by omega)
  have HB := Lib.hid ((Below.refl w.heap.size w).alloc (Nat.le_refl _) (.cells #[.bool neg, .int .u64 n, .int .i64 z] 32))
  clear h
  go_enter Tryd.func5, Tryd.ntmps5
  go_wp2_with (first | (go_at_call 20; go_must (refine (HI.out _).mono ?_); rintro r w1 ⟨rfl, hb⟩; have HB1 := Lib.hid (below_by HB.out hb); clear hb))
  go_ret
  exact ⟨rfl, HB1.out⟩
theorem units_wide (neg : Bool) (n : Nat) (w : World) (hn : n ≤ 9999999999999999999) :
    Calls Tryd.prog 5 #[.agg #[.bool neg, .int .u64 n, .int .i64 19]] w fun e w' => e = .returned (.bool true) ∧ Below w.heap.size w w' := by
  have HI := Lib.hid (fun W => fixIs_ok neg n 19 W hn (by omega))
  rw [show ((19 : Nat) : Int) = 19 from rfl] at HI
  have HB : Hid (St w (w.alloc (.cells #[.bool neg, .int .u64 n, .int .i64 19] 32)) [(w.heap.size, 0, .bool neg), (w.heap.size, 1, .int .u64 n), (w.heap.size, 2, .int .i64 19)] w.heap.size 0) :=
    ⟨Cells.box3 (Cells.nil _) rfl _ _ _ _, fun o ho => absurd ho (by omega), by simp, (Below.refl _ _).alloc (Nat.le_refl _) _⟩
  clear hn
  go_enter Tryd.func5, Tryd.ntmps5
  go_wp2_with (first | (go_at_call 20; go_must (refine (HI.out _).mono ?_); rintro r w1 ⟨rfl, hb⟩; have HB1 := Lib.hid (HB.out.call hb); obtain ⟨a0, a1, a2, -⟩ := HB1.out.cells; clear hb))
  go_ret
  exact ⟨rfl, HB1.out.below⟩
/-- The law. -/
theorem units_any (neg : Bool) (n : Nat) (z : Int) (w : World) (hp : Fint.PowAt w) :
    Calls Tryd.prog 5 #[.agg #[.bool neg, .int .u64 n, .int .i64 z]] w fun e w' => e = .returned (.bool true) ∧ Below w.heap.size w w' := by
  by_cases h : 9999999999999999999 < n ∨ z < 0 ∨ 19 < z
  · exact units_bad neg n z w h
  · obtain ⟨s, rfl⟩ := Int.eq_ofNat_of_zero_le (show 0 ≤ z by omega)
    by_cases h19 : s = 19
    · subst h19
      exact units_wide neg n w (by omega)
    · exact units_ok neg n s (10 ^ s) w (by omega) (by omega) (hp s (by omega)) rfl
end Go.Proofs.YthkmgjkajllemaaDoor.Spec

/- What the rows' lists of package-level variables give the walks: the table of powers of ten lies in memory. -/
namespace Go.Proofs.YthkmgjkajllemaaDoor.Laid
open Go.RowKit
theorem own : ownKnob Tryd.prog.godebug = none := by kernel_rfl
theorem laidOut : laidOutB Tryd.prog = true := by kernel_rfl
theorem gPow : Tryd.prog.globalNamed "given.example/pub-alexandrine/pub/govalues.pow10" = some 0 := by kernel_rfl
theorem gPowType : (Tryd.prog.globals[0]?).map (·.type) = some 112 := by kernel_rfl
theorem cells112 : Tryd.prog.cellsOf 112 = 20 := by kernel_rfl
theorem cells72 : Tryd.prog.cellsOf 72 = 1 := by kernel_rfl

/-- The table's numbers. -/
def zs : List Int := [1, 10, 100, 1000, 10000, 100000, 1000000, 10000000, 100000000, 1000000000, 10000000000, 100000000000, 1000000000000, 10000000000000, 100000000000000, 1000000000000000, 10000000000000000, 100000000000000000, 1000000000000000000, 10000000000000000000]
theorem zs_at (i : Nat) (h : i < 20) : zs.getD i 0 = Fint.p10 i :=
  (show ∀ i : Fin 20, zs.getD i.1 0 = Fint.p10 i.1 by unfold Fint.p10; decide +kernel) ⟨i, h⟩

/-- What the row's list gives the walks. -/
theorem powAt_of_head {W : World} {rest : List (String × DataW Unit)} (h : laidMet Tryd.prog (("given.example/pub-alexandrine/pub/govalues.pow10", Rows.laid_given_example_pub_alexandrine_pub_govalues_pow10) :: rest) W) : Fint.PowAt W := by
  have hT : Lib.TabIs Tryd.prog W "given.example/pub-alexandrine/pub/govalues.pow10" .u64 zs := Lib.tabIs_of_head gPow gPowType Tryd.underlying112 Tryd.underlying72 cells72 cells112 h
  intro i hi
  rw [← zs_at i hi]
  exact hT.cell gPow i hi

end Go.Proofs.YthkmgjkajllemaaDoor.Laid

/- What the rows' lists of package-level variables give the walks: the package's two errors are none that is nil. -/
namespace Go.Proofs.YthkmgjkajllemaaDoor.LaidErr
open Go.RowKit

theorem star : "*errors.errorString" = "*" ++ "errors.errorString" := rfl
theorem row140 (u : TypeId) (h : Tryd.prog.typeName? 3 u = some "*errors.errorString") : u = 140 :=
  typeName_ptr_named (nm := "errors.errorString") (by rw [← star]; kernel_rfl) (by kernel_rfl) (by decide) u (by rw [← star]; exact h)
theorem gRange : Tryd.prog.globalNamed "given.example/pub-alexandrine/pub/govalues.errScaleRange" = some 2 := by kernel_rfl
theorem gRangeType : (Tryd.prog.globals[2]?).map (·.type) = some 76 := by kernel_rfl
theorem gOver : Tryd.prog.globalNamed "given.example/pub-alexandrine/pub/govalues.errDecimalOverflow" = some 3 := by kernel_rfl
theorem gOverType : (Tryd.prog.globals[3]?).map (·.type) = some 76 := by kernel_rfl
theorem cells142 : Tryd.prog.cellsOf 142 = 1 := by kernel_rfl
theorem cells9 : Tryd.prog.cellsOf 9 = 1 := by kernel_rfl

theorem errAt_of_head {W : World} {rest : List (String × DataW Unit)}
    (h : laidMet Tryd.prog (("given.example/pub-alexandrine/pub/govalues.errDecimalOverflow", Rows.laid_given_example_pub_alexandrine_pub_govalues_errDecimalOverflow) :: ("given.example/pub-alexandrine/pub/govalues.errScaleRange", Rows.laid_given_example_pub_alexandrine_pub_govalues_errScaleRange) :: rest) W) : Make.ErrAt W := by
  obtain ⟨a0, s0, hv0, _, _, _⟩ := laid_sentinel h gOver gOverType Tryd.underlying76 row140 Tryd.underlying140 Tryd.underlying142 rfl rfl Tryd.underlying9 cells142 cells9
  obtain ⟨a1, s1, hv1, _, _, _⟩ := laid_sentinel h.tail gRange gRangeType Tryd.underlying76 row140 Tryd.underlying140 Tryd.underlying142 rfl rfl Tryd.underlying9 cells142 cells9
  have h3 := World.var?_cell gOver hv0 0
  have h2 := World.var?_cell gRange hv1 0
  exact ⟨⟨_, _, h2⟩, ⟨_, _, h3⟩, World.block_lt_of_cell? W _ h3⟩
end Go.Proofs.YthkmgjkajllemaaDoor.LaidErr

/- A decimal of govalues that comes in as data: three parts; and what the rows that list the errors and the powers of ten give the walks. -/
namespace Go.Proofs.YthkmgjkajllemaaDoor.FixArg
open Go.ChangeShapes Go.WideShapes Go.ChangeAt Go.RowKit Go.Joins
set_option linter.unusedVariables false

theorem cells32 : Tryd.prog.cellsOf 32 = 3 := by kernel_rfl
set_option maxRecDepth 100000 in
theorem open_fix {H : Type} {enc : TypeId × Value → H} {W : World} {base : Nat} {sp : Nat → Bool} {hd : Bool} {r : Reach} {b0 : Nat} {v : Value} {d : DataW H} {p : List MemPlace}
    (hv : Value.okWide Tryd.prog W r b0 32 v) (h : DataW.Trod enc Tryd.prog W base sp hd 32 v d p) :
    ∃ (neg : Bool) (n : Nat) (z : Int), v = .agg #[.bool neg, .int .u64 n, .int .i64 z] ∧ d = .agg [.lit (.bool neg), .lit (.int .u64 n), .lit (.int .i64 z)] ∧ p = [] ∧ n < 18446744073709551616 ∧ (Lit.int .i64 z).wf = true := by
  obtain ⟨c0, c1, c2, y0, y1, y2, m, rfl, rfl, rfl, hy0, hy1, hy2⟩ := open_agg3 Tryd.underlying32 (by kernel_rfl) cells32 hv h
  obtain ⟨x, e0, rfl⟩ := DataW.trod_bool Tryd.underlying4 hy0
  obtain ⟨y, e1, rfl, wy⟩ := DataW.trod_int Tryd.underlying22 hy1
  obtain ⟨z, e2, rfl, wz⟩ := DataW.trod_int Tryd.underlying3 hy2
  simp at e0 e1 e2
  subst e0 e1 e2
  have hy := bounds_u64 wy
  obtain ⟨n, rfl⟩ := Int.eq_ofNat_of_zero_le hy.1
  exact ⟨x, n, z, rfl, rfl, rfl, by have := hy.2; omega, wz⟩
set_option maxRecDepth 100000 in
theorem shut_fix {H : Type} {enc : TypeId × Value → H} (W' : World) (b : Nat) (sp : Nat → Bool) (hd : Bool) (neg : Bool) (n : Nat) (z : Int) (hn : n < 18446744073709551616) (wz : (Lit.int .i64 z).wf = true) :
    DataW.Trod enc Tryd.prog W' b sp hd 32 (.agg #[.bool neg, .int .u64 n, .int .i64 z]) (.agg [.lit (.bool neg), .lit (.int .u64 n), .lit (.int .i64 z)]) [] := by
  have wn : (Lit.int .u64 (n : Int)).wf = true := by go_wf
  simpa using shut_agg3 (enc := enc) (w := W') (base := b) (spare := sp) (held := hd) (y0 := (.lit (.bool neg), [])) (y1 := (.lit (.int .u64 n), [])) (y2 := (.lit (.int .i64 z), [])) Tryd.underlying32 (by kernel_rfl) cells32 ⟨1, by simp [DataW.trod, Tryd.underlying4]⟩ ⟨1, by simp [DataW.trod, Tryd.underlying22, wn]⟩ ⟨1, by simp [DataW.trod, Tryd.underlying3, wz]⟩

/-- What a row that lists the two errors and the table gives. -/
theorem laid_both {W : World} (h : laidMet Tryd.prog Rows.fnFixUnitsRow.laid W) : Make.ErrAt W ∧ Fint.PowAt W :=
  ⟨LaidErr.errAt_of_head h, Laid.powAt_of_head h.tail.tail⟩

/-- What lists of three variables read as. -/
theorem three_vars {H : Type} {enc : TypeId × Value → H} {P : Program} {W : World} {sp : Nat → Bool} {gs : List (DataW H)} {q : List MemPlace} {a b c : String} (hV : DataW.TrodVars enc P W sp [a, b, c] gs q) : ∃ g1 g2 g3, gs = [g1, g2, g3] := by
  obtain _ | ⟨g1, gs⟩ := gs
  · exact hV.elim
  · obtain ⟨_, _, _, _, _, _, _, _, _, _, hs, _⟩ := hV
    obtain _ | ⟨g2, gs⟩ := gs
    · exact hs.elim
    · obtain ⟨_, _, _, _, _, _, _, _, _, _, hs, _⟩ := hs
      obtain _ | ⟨g3, gs⟩ := gs
      · exact hs.elim
      · obtain ⟨_, _, _, _, _, _, _, _, _, _, hs, _⟩ := hs
        obtain _ | ⟨g4, gs⟩ := gs
        · exact ⟨g1, g2, g3, rfl⟩
        · exact hs.elim
end Go.Proofs.YthkmgjkajllemaaDoor.FixArg

namespace Go.Proofs.YthkmgjkajllemaaDoor.fnFixUnits
open Go.ChangeShapes Go.WideShapes Go.ChangeAt Go.RowKit
set_option linter.unusedVariables false

open FixArg

theorem own : ownKnob Tryd.prog.godebug = none := by kernel_rfl
theorem laidOut : laidOutB Tryd.prog = true := by kernel_rfl

/-- The door's own heap meets the condition. -/
theorem door_met (os : Os) (args : Array Value) : laidMetH Tryd.prog Rows.fnFixUnitsRow.laid ((World.doorLaid Tryd.prog 166 os).forCall (fun _ _ => 0) ⟨#[], args, []⟩).memory :=
  laidMetH_of_parts3 (fuel := 8) (laidMet_of_run' 8 (by kernel_rfl) (by kernel_rfl)) (by kernel_rfl) (by kernel_rfl)

set_option maxRecDepth 100000 in
theorem lifted (os : Os) (started : os.Started) (H : Type) (enc : TypeId × Value → H) :
    ReturnsInHanded {} Tryd.checked os 5 .any (fun w args => (Rows.fnFixUnitsSpec.pre enc Tryd.prog Tryd.f5 [] false w args ∧ laidMetH Tryd.prog Rows.fnFixUnitsRow.laid w) ∧ sizedMet enc Tryd.prog Tryd.f5 (OpenSpec.ofChange Rows.fnFixUnitsSpec) false w args)
      (Rows.fnFixUnitsSpec.post enc Tryd.prog Tryd.f5 false true false false) := by
  refine returnsInHanded_of_change_and (C := Tryd.checked) (X := fun w _ => laidMetH Tryd.prog Rows.fnFixUnitsRow.laid w) (fun _ _ _ hh h => h.of_heap hh) own started (by kernel_rfl) Tryd.func5
    (ChangeSpec.witness_shaped (enc := enc) (C := Tryd.checked) (os := os) (X := fun w _ => laidMetH Tryd.prog Rows.fnFixUnitsRow.laid w) false (World.doorLaid Tryd.prog 166 os) #[.agg #[.bool false, .int .u64 0, .int .i64 0]] 8 rfl (World.shaped_of_RefB (by kernel_rfl) (by kernel_rfl)) (by kernel_rfl) (by kernel_rfl) (by kernel_rfl) (door_met os _)) ?_
  intro W base args ds gs before hval0 hW _ _ hL _
  have hval : ∀ (j : Nat) t v, Tryd.f5.params[j]? = some t → args[j]? = some v → Value.okWide Tryd.prog W .any base t v := hval0
  have hW' := hW
  obtain ⟨p, q, hA0, hV, rfl, hfz, hnd⟩ := hW
  have hA : DataW.TrodAll enc Tryd.prog W 0 (fun _ => true) true Tryd.f5.params.toList args.toList ds p := hA0
  rw [Tryd.params5] at hA hval
  obtain ⟨v0, vs0, d0, ds0, p0, q0, hargs, rfl, rfl, h0, r0⟩ := trodAll_cons hA
  obtain ⟨rfl, rfl, rfl⟩ := trodAll_nil r0
  obtain rfl : args = #[v0] := by cases args; simp_all
  obtain ⟨neg, n, z, rfl, rfl, rfl, hn, wz⟩ := open_fix (hval 0 32 v0 rfl rfl) h0
  obtain ⟨hE, hP⟩ := laid_both (W := W) (by
    have h := hL
    rw [MakeChecks.laidMetH_plain _ _ _ (by kernel_rfl)] at h
    exact h)
  obtain ⟨g1, g2, g3, hgs⟩ := three_vars hV
  subst hgs
  clear hA0 hval0
  refine (Spec.units_any neg n z W hP).mono fun e W' ⟨he, bel⟩ => ?_
  subst he
  exact ⟨_, rfl, _, _, _, [], _, _, hW', trodAll_mk1 (shut_bool Tryd.underlying4 _), trodAll_cons_mk (shut_fix _ _ _ _ neg n z hn wz) trodAll_mk0, Below.trodVars laidOut bel (by kernel_rfl) hV, bel.frame _, fun h => by cases h⟩

theorem said : Rows.FnFixUnitsSaid :=
  OpenClaim.holds_of_wide 5 Tryd.f5 rfl rfl rfl rfl rfl rfl rfl ⟨rfl, rfl, rfl, rfl, rfl⟩ rfl rfl rfl rfl rfl (by kernel_rfl) Tryd.func5 (by kernel_rfl)
    (of_decide_eq_true (by kernel_rfl)) (by unfold Func.isWrapper; first | (rw [if_pos (by decide +kernel)]; kernel_rfl) | (rw [if_neg (by decide +kernel)]; exact ⟨rfl, rfl⟩))
    (fun os started H enc _ => lifted os started H enc)

theorem plain (f : FuncId) (fn : Func) (hf : Tryd.pinned.checked.prog.funcNamed "given.example/pub-alexandrine/laws.FnFixUnits" = some f) (hfn : Tryd.pinned.checked.prog.funcs[f]? = some fn) :
    true = Tryd.pinned.checked.prog.looks [] ∧ ∀ (j : Nat) t, fn.params[j]? = some t → Tryd.pinned.checked.prog.wantsStandIn t = false := by
  obtain rfl : f = 5 := Option.some.inj ((show Tryd.prog.funcNamed "given.example/pub-alexandrine/laws.FnFixUnits" = some 5 by kernel_rfl).symm.trans hf) |>.symm
  obtain rfl : fn = Tryd.f5 := (Option.some.inj (Tryd.func5.symm.trans hfn)).symm
  refine ⟨by kernel_rfl, fun j t ht => ?_⟩
  rw [Tryd.params5] at ht
  have hm : t ∈ [32] := by simpa using Array.mem_of_getElem? ht
  have hall : ([32].all fun u => !Tryd.prog.wantsStandIn u) = true := by kernel_rfl
  exact (show Tryd.prog.wantsStandIn t = false by simpa using List.all_eq_true.1 hall t hm)

theorem card : Rows.FnFixUnitsCardSaid :=
  Claim7.holds_tied_plain_at .later [] _ _ _ _ said (fun _ h => by cases h) (by kernel_rfl) (fun _ h => by cases h) fnFixUnits_row_tie rfl ⟨rfl, rfl⟩ (by kernel_rfl) rfl plain (by kernel_rfl)
end Go.Proofs.YthkmgjkajllemaaDoor.fnFixUnits
