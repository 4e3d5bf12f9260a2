/- Natural numbers of the reference in memory: slices of limbs in blocks that the call has made. -/
import Derived.Test.YthkmgjkajllemaaStr
namespace Go.Proofs.Ythkmgjkajllemaa.Nats
open Go.RowKit Go.Proofs.YthkmgjkajllemaaW.PrintWords Go.Proofs.YthkmgjkajllemaaW.PrintLast Go.Proofs.YthkmgjkajllemaaW.PrintMore Go.Proofs.Ythkmgjkajllemaa.Num Go.Proofs.Ythkmgjkajllemaa.Str
set_option linter.unusedVariables false
set_option linter.unusedSimpArgs false

/-- A natural number in memory, in blocks from b on. -/
def IsNew (w : World) (b : Nat) (v : Value) (n : Nat) : Prop := Kd.V (Kd.int .u32) 54 w b (fun k => b ≤ k) v (limbs n)
theorem IsNew.below {w w1 : World} {b : Nat} {v : Value} {n : Nat} (h : IsNew w b v n) (hb : Below w.heap.size w w1) : IsNew w1 b v n := Kd.V_below h hb
theorem IsNew.lower {w : World} {b b' : Nat} {v : Value} {n : Nat} (h : IsNew w b v n) (hb : b' ≤ b) : IsNew w b' v n := Kd.V_mono (Kd.V_lower h hb) (fun k hk => Nat.le_trans hb hk)
theorem IsNew.set {w : World} {b : Nat} {v : Value} {n : Nat} (h : IsNew w b v n) {p : Addr} (hp : p.block < b) (u : Value) : IsNew (w.setCell p u) b v n :=
  Kd.V_far h (fun k hk e => by have : b ≤ k := hk; omega) u
theorem IsNew.drew {w : World} {b : Nat} {v : Value} {n : Nat} (h : IsNew w b v n) : IsNew w.drew b v n := Kd.V_drew h
theorem IsNew.alloc {w : World} {b : Nat} {v : Value} {n : Nat} (h : IsNew w b v n) (o : Obj) : IsNew (w.alloc o) b v n := Kd.V_alloc h o
theorem IsNew.slice {w : World} {b : Nat} {v : Value} {n : Nat} (h : IsNew w b v n) : ∃ A c, v = .slice A (limbs n).length c := Kd.V_slice h
theorem IsNew.isNat {w : World} {b : Nat} {v : Value} {n : Nat} (h : IsNew w b v n) : IsNat w v n := by
  obtain ⟨A, c, rfl⟩ := Kd.V_slice h
  obtain ⟨_, hc, hr⟩ := Kd.V_reads' h
  exact ⟨A, c, rfl, hc, hr⟩
theorem V_of_R {α : Type} {d : Kd α} {e base : Nat} {ok : Nat → Prop} {w : World} {v : Value} {xs : List α} (h : d.R e w base ok v xs) : Kd.V d e w base (fun k => base ≤ k) v xs := by
  obtain ⟨A, c, rfl, hl, _⟩ := Kd.R_reads h
  refine ⟨A, c, rfl, hl, fun W' hW => ?_⟩
  have h1 := Kd.R_mono (Kd.R_bound h) (ok' := fun k => base ≤ k) (fun k hk => hk.2.1)
  have h2 : d.R e W' base (fun k => base ≤ k) (.slice A xs.length c) xs := Kd.R_step h1 (fun k hk hlt => hW k hk hlt)
  obtain ⟨A', c', e', _, hr⟩ := Kd.R_reads h2
  injection e' with ha _ _
  rw [ha]
  exact hr

/-- NatFrom, in blocks of its own. -/
theorem natFrom_new (x : Nat) (w : World) (h : x < 18446744073709551616) :
    Calls Try.prog 9 #[.int .u64 x] w fun e w' => ∃ v, e = .returned v ∧ IsNew w' w.heap.size v x ∧ Below w.heap.size w w' := by
  have e : PNatFrom.spec_NatFrom.f 4 (x : Int) = some (limbs x) := by
    unfold PNatFrom.spec_NatFrom.f
    rw [natFrom_go 3 4 x [] (by omega) (by omega) h (by simp)]
    rfl
  refine (PNatFrom.spec_NatFrom.calls 4 x _ w e).mono ?_
  rintro e w' ⟨v, rfl, hr, hb⟩
  exact ⟨v, rfl, V_of_R hr, hb⟩
end Go.Proofs.Ythkmgjkajllemaa.Nats
