/- impl.DecParse of a text that is no number: the fault 1. -/
import Derived.Test.YthkmgjkajllemaaDoorNf
import Derived.Recover
namespace Go.Proofs.YthkmgjkajllemaaDoor.Nf
open Go.RowKit Go.Proofs.YthkmgjkajllemaaDoorW.PrintWords Go.Proofs.YthkmgjkajllemaaDoorW.PrintLast Go.Proofs.YthkmgjkajllemaaDoorW.PrintMore Go.Proofs.YthkmgjkajllemaaDoor.Tx Go.Proofs.YthkmgjkajllemaaDoor.Rd Go.Proofs.YthkmgjkajllemaaDoor.Mw Go.Proofs.YthkmgjkajllemaaDoor.Pi
set_option linter.unusedVariables false
set_option linter.unusedSimpArgs false

theorem idle74 (p q : Addr) (w : World) :
    CallsD Tryd.prog 74 #[.pointer (some p), .pointer (some q)] .returning w fun e u' w' => e = .returned (.tuple #[]) ∧ u' = .returning ∧ w' = w := by
  refine callsD_of_wpS Tryd.func74 rfl fun c₀ cs hu => ?_
  apply wpS_seq
  apply wpS_region
  simp [wpOpsS, go_sem, recoverD, hu, Tryd.ntmps74, Exit.thenS]
  refine wpS_cond (t := false) (by simp [Act.eval, Array.replicate]) ?_
  simp only [Bool.false_eq_true, if_false]
  refine wpS_of_wp (wp_skip ?_)
  cases c₀
  simp_all [bodyPostS, results, Tryd.results74]

/-- The blocks of both results. -/
structure Out (w w' : World) : Prop where
  c0 : w'.cell? ⟨w.heap.size, 0, none⟩ = some (.string ⟨#[]⟩)
  c1 : w'.cell? ⟨w.heap.size, 1, none⟩ = some (.int .i64 0)
  c2 : w'.cell? ⟨w.heap.size + 1, 0, none⟩ = some (.int .i64 0)
  f0 : w'.frozen? ⟨w.heap.size, 0, none⟩ = false
  f1 : w'.frozen? ⟨w.heap.size, 1, none⟩ = false
  f2 : w'.frozen? ⟨w.heap.size + 1, 0, none⟩ = false
  lt : w.heap.size + 1 < w'.heap.size
  below : Below w.heap.size w w'
theorem Out.keep {w w1 w2 : World} (h : Out w w1) (hb : Below w1.heap.size w1 w2) : Out w w2 := by
  obtain ⟨c0, c1, c2, f0, f1, f2, lt, hw⟩ := h
  exact ⟨pw_cell_below hb c0, pw_cell_below hb c1, pw_cell_below hb c2, (hb.frozen (p := ⟨w.heap.size, 0, none⟩) (by show w.heap.size < _; omega)).trans f0, (hb.frozen (p := ⟨w.heap.size, 1, none⟩) (by show w.heap.size < _; omega)).trans f1, (hb.frozen (p := ⟨w.heap.size + 1, 0, none⟩) lt).trans f2, Nat.lt_of_lt_of_le lt hb.size, hw.trans (hb.mono (by omega))⟩
theorem Out.new (w : World) : Out w ((w.alloc (.cells #[.string ⟨#[]⟩, .int .i64 0] 64)).alloc (.cells #[.int .i64 0] 3)) :=
  ⟨by simp, by simp, by simp, by simp, by simp, by simp, by simp, ((Below.refl _ _).alloc (Nat.le_refl _) _).alloc (by simp) _⟩

set_option maxHeartbeats 1000000 in
set_option maxRecDepth 100000 in
theorem decParse_ref (s : ByteArray) (te tn : TypeId) (pe pn : Value) (w : World) (h : Ref s) (hE : Errs w te pe tn pn) (h5 : Errs5 w) (hb8 : 8 < w.heap.size) :
    Calls Tryd.prog 40 #[.string s] w fun r w' => r = .returned (.tuple #[.agg #[.string ⟨#[]⟩, .int .i64 0], .int .i64 1]) ∧ Below w.heap.size w w' := by
  have hmf : ∀ (fn : Fn) (first cap : Array Value) (w : World), (Instr.makeFunc fn first cap).run Tryd.prog w = .ok (.func fn first cap) w := fun _ _ _ _ => rfl
  have HO := Aside0.mk (Out.new w)
  have X75 := Lib.hid (newFrom_ref s te tn pe pn _ h (hE.below HO.out.below hb8) (h5.below HO.out.below hb8) (by have := HO.out.lt; omega))
  have hs : decide (2000 < (s.size : Int)) = false := decide_eq_false (by have := h.size; omega)
  have hne : w.heap.size + 1 ≠ w.heap.size := by omega
  clear h hE h5
  go_enter_defers Tryd.func40, Tryd.ntmps40
  go_wp2_with fail
  refine X75.out.mono ?_
  rintro r w2 ⟨a, rfl, hb⟩
  have HO2 := Aside0.mk (HO.out.keep hb)
  have HO3 := Aside0.mk (HO2.out.keep (w2 := w2.alloc (.cells #[.pointer none, .int .i32 0] 102)) ((Below.refl _ _).alloc (Nat.le_refl _) _))
  obtain ⟨d0, d1, d2, f0, f1, f2, hlt, -⟩ := HO3.out
  clear hb
  go_wp2_with fail
  refine leaves_cons (f := 74) (args := #[.pointer (some ⟨w.heap.size, 0, none⟩), .pointer (some ⟨w.heap.size + 1, 0, none⟩)]) (by simp) (by simp [go_sem]) ?_
  refine (idle74 _ _ _).mono ?_
  rintro r u' w'' ⟨rfl, rfl, rfl⟩
  have HF := ((HO3.out.below.setCell (p := ⟨w.heap.size, 0, none⟩) (Nat.le_refl _) (.string ⟨#[]⟩)).setCell (p := ⟨w.heap.size, 1, none⟩) (Nat.le_refl _) (.int .i64 0)).setCell (p := ⟨w.heap.size + 1, 0, none⟩) (by show w.heap.size ≤ w.heap.size + 1; omega) (.int .i64 1)
  simp [Leaves, settle, results, Tryd.results40, go_sem, d0, d1, d2, f0, f1, f2]
  exact HF
end Go.Proofs.YthkmgjkajllemaaDoor.Nf
