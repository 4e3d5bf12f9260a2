/- FnFixInts: for every decimal of govalues as parts and every scale, the law answers true; the row lists the package's two errors and its table of powers of ten, and the card ties them to the program's text. -/
import Derived.Test.YthkmgjkajllemaaDoorCiE
import Derived.Test.YthkmgjkajllemaaDoorPFnFixNewx1
import Derived.Deep.RegionWith
import Derived.Test.YthkmgjkajllemaaDoorRows
import Derived.ProofKit
import Derived.LaidMore
import Derived.Lib.LaidTab
import Derived.Stop.LaidErr
import Derived.OpenShut
import Derived.OpenVars
import Derived.Lib.SmallJoins
import Derived.Test.YthkmgjkajllemaaDoorCards
import Derived.Test.YthkmgjkajllemaaDoorTie
import Derived.ChangeOld
import Derived.SevenTiedAt
import Derived.Stop.Joined

/- The law FnFixNew answers true for every value and scale, where the package's errors lie in memory. -/
namespace Go.Proofs.YthkmgjkajllemaaDoor.FixLike
open Go.RowKit Go.Proofs.YthkmgjkajllemaaDoorW.PrintWords Go.Proofs.YthkmgjkajllemaaDoor.Num Go.Proofs.YthkmgjkajllemaaDoor.Str Go.Proofs.YthkmgjkajllemaaDoor.Nats Go.Proofs.YthkmgjkajllemaaDoor.Make
set_option linter.unusedVariables false
set_option linter.unusedSimpArgs false
attribute [local go_sem high] PFnFixNew.eqA32

/-- The limbs of a value. -/
theorem wholeOf_any (v : Int) (w : World) (h1 : -9223372036854775808 ≤ v) (h2 : v ≤ 9223372036854775807) :
    Calls Tryd.prog 19 #[.int .i64 v] w fun e w' => ∃ u, e = .returned (.agg #[.bool (decide (v < 0)), u]) ∧ IsNew w' w.heap.size u v.natAbs ∧ Below w.heap.size w w' := by
  have HN : Hid (∀ W, Calls Tryd.prog 11 #[.int .u64 (v.natAbs : Nat)] W fun e w' => ∃ u, e = .returned u ∧ IsNew w' W.heap.size u v.natAbs ∧ Below W.heap.size W w') := fun W => natFrom_new v.natAbs W (by omega)
  by_cases h0 : v < 0
  · have hd : decide (v < 0) = true := decide_eq_true h0
    rw [hd]
    have hv1 : v + 1 ≤ 0 := by omega
    have hv3 : 0 ≤ -(v + 1) := by omega
    have HV := Lib.hid (show -(v + 1) + 1 = ((v.natAbs : Nat) : Int) by omega)
    generalize v.natAbs = n at HN HV ⊢
    clear h0
    go_enter Tryd.func19, Tryd.ntmps19
    go_wp2_with fail
    rw [HV.out]
    refine (HN.out _).mono ?_
    rintro e w1 ⟨u, rfl, hn, hb⟩
    obtain ⟨A, c, rfl⟩ := hn.slice
    obtain ⟨⟨c0, c1, f0, f1, hz⟩, hb1⟩ := made2 hb
    have HB := Lib.hid hb1
    have HI := Lib.hid hn
    clear hb hb1 hn
    go_wp2
    exact bodyPost_ret (v := .agg #[.bool true, .slice A (limbs n).length c]) (by simp [results, Tryd.results19, go_sem, c0, c1, f0, f1, hz]) rfl ⟨_, rfl, ((HI.out.set (by simp) _).set (by simp) _).lower (by simp), (HB.out.setCell (Nat.le_refl _) _).setCell (Nat.le_refl _) _⟩
  · have hd : decide (v < 0) = false := decide_eq_false h0
    rw [hd]
    obtain ⟨n, rfl⟩ := Int.eq_ofNat_of_zero_le (show 0 ≤ v by omega)
    rw [show ((n : Int).natAbs) = n by omega] at HN ⊢
    clear h0
    go_enter Tryd.func19, Tryd.ntmps19
    go_wp2_with fail
    refine (HN.out _).mono ?_
    rintro e w1 ⟨u, rfl, hn, hb⟩
    obtain ⟨A, c, rfl⟩ := hn.slice
    obtain ⟨⟨c0, c1, f0, f1, hz⟩, hb1⟩ := made2 hb
    have HB := Lib.hid hb1
    have HI := Lib.hid hn
    clear hb hb1 hn
    go_wp2
    exact bodyPost_ret (v := .agg #[.bool false, .slice A (limbs n).length c]) (by simp [results, Tryd.results19, go_sem, c0, c1, f0, f1, hz]) rfl ⟨_, rfl, ((HI.out.set (by simp) _).set (by simp) _).lower (by simp), (HB.out.setCell (Nat.le_refl _) _).setCell (Nat.le_refl _) _⟩

set_option maxHeartbeats 1000000 in
/-- The parts of a number as it is written. -/
theorem fixOf_any (neg : Bool) (u : Value) (n s : Nat) (w : World) (hu : IsNat w u n) (hn : n ≤ 9999999999999999999) (hs : s ≤ 19) :
    Calls Tryd.prog 46 #[.agg #[.bool neg, u, .int .i64 (-(s : Int))]] w fun e w' => e = .returned (.tuple #[.agg #[.bool neg, .int .u64 n, .int .i64 s], .bool true]) ∧ Below w.heap.size w w' := by
  have hl3 : (limbs n).length ≤ 3 := limbs_length 3 n (by omega)
  have hdg : (decs n).length ≤ 19 := decs_length 19 n (by omega)
  have HD := Aside0.mk (natDigits_any n)
  have HN := Aside0.mk hn
  obtain ⟨A, c, rfl, hc, hr⟩ := hu
  have HU : Aside0 (IsNat w (.slice A (limbs n).length c) n) := ⟨⟨A, c, rfl, hc, hr⟩⟩
  have HR := Aside0.mk hr
  clear hr hn
  generalize hm : (decs n).length = m at hdg HD
  clear hm
  have g0 : decide ((0 : Int) < -(s : Int)) = false := decide_eq_false (by omega)
  have g1 : decide (-(s : Int) < -19) = false := decide_eq_false (by omega)
  have g2 : decide ((19 : Int) < m) = false := decide_eq_false (by omega)
  go_enter Tryd.func46, Tryd.ntmps46
  go_wp2_with (first | (go_at_call 13; refine (HD.out _ _ (HU.out.below (below_at (below_at (Below.refl _ _) _) _)) (by omega)).mono ?_; rintro e w1 ⟨rfl, hb⟩; have hb1 := below_one _ hb; have H2 := (C3.new w (.bool neg) (.slice A (limbs n).length c) (.int .i64 (-(s : Int))) 40).below hb1; have H3 := Lib.hid (made3 hb).1; have HB := Lib.hid (below_one _ hb1); obtain ⟨c0, c1, c2, f0, f1, f2, hz⟩ := H2; clear hb hb1))
  go_loop [4, 5] (fun v4 v5 => ∃ j : Nat, j ≤ (limbs n).length ∧ v5 = .int .i64 ((j : Int) - 1) ∧ v4 = .int .u64 (rest n j)) (fun _ v5 => (intOf v5 + 1).toNat)
  case atStart => exact ⟨(limbs n).length, Nat.le_refl _, rfl, by
    have : rest n (limbs n).length = 0 := by
      rcases Nat.eq_zero_or_pos (rest n (limbs n).length) with h | h
      · exact h
      · exact absurd ((rest_pos n _).2 h) (Nat.lt_irrefl _)
    rw [this]; rfl⟩
  case round =>
    obtain ⟨j, hj, rfl, rfl⟩ := hrel
    cases j with
    | succ j =>
      obtain ⟨hx, hpos⟩ := limbs_at n j (by omega)
      obtain ⟨ad, e0, hc0⟩ := Kd.at_int HR.out (j : Int) (by omega) (by omega)
      have hc1 := (HB.out.cell (World.block_lt_of_cell? w _ hc0)).trans hc0
      unfold rd at hc1
      rw [Int.toNat_natCast, hx] at hc1
      subst e0
      have hr1 := rest_succ n j
      have hrn : rest n j ≤ n := Nat.div_le_self _ _
      have hnn := HN.out
      obtain ⟨x, hx2⟩ : ∃ x, rest n j % 1000000000 = x := ⟨_, rfl⟩
      obtain ⟨q, hq2⟩ : ∃ q, rest n (j + 1) = q := ⟨_, rfl⟩
      rw [hx2] at hc1
      rw [hq2] at hr1 ⊢
      have hb1 : x < 1000000000 := by omega
      have hb2 : q ≤ 9999999999 := by omega
      have HV := Lib.hid (show (q : Int) * 1000000000 + x = (rest n j : Nat) by omega)
      have hv : ((j + 1 : Nat) : Int) - 1 = j := by omega
      rw [hv]
      clear hv hx hpos hc0 hr1 hrn hnn hx2 hq2
      go_wp2
      go_round
      case rel => exact ⟨j, by omega, rfl, by rw [HV.out]⟩
      case measure => simp [intOf]
    | zero =>
      have hv : ((0 : Nat) : Int) - 1 = -1 := rfl
      rw [rest_zero, hv]
      clear hv
      obtain ⟨d0, d1, d2, e0, e1, e2, hz2⟩ := H3.out
      rw [show (w.alloc (.cells #[.bool neg, .slice A (limbs n).length c, .int .i64 (-(s : Int))] 40)).heap.size = w.heap.size + 1 by simp] at d0 d1 d2 e0 e1 e2 hz2
      go_wp2
      exact bodyPost_ret (v := .tuple #[.agg #[.bool neg, .int .u64 n, .int .i64 s], .bool true]) (by simp [results, Tryd.results46, go_sem, d0, d1, d2, e0, e1, e2, hz2]) rfl ⟨rfl, ((HB.out.setCell (by simp) _).setCell (by simp) _).setCell (by simp) _⟩

/-- A decimal that is a number as it is written. -/
theorem fixLike_any (b : Bool) (m k : Nat) (neg : Bool) (u : Value) (n s : Nat) (w : World) (hu : IsNat w u n) (hn : n ≤ 9999999999999999999) (hs : s ≤ 19) :
    Calls Tryd.prog 18 #[.agg #[.bool b, .int .u64 m, .int .i64 k], .agg #[.bool neg, u, .int .i64 (-(s : Int))]] w fun e w' =>
      e = .returned (.bool ((b == neg) && ((m : Int) == n && ((k : Int) == s)))) ∧ Below w.heap.size w w' := by
  have HF := Lib.hid (fun W hW => fixOf_any neg u n s W hW hn hs)
  have HU : Hid (∀ o1 o2, IsNat ((w.alloc o1).alloc o2) u n) := fun o1 o2 => hu.below (below_at (below_at (Below.refl _ _) _) _)
  obtain ⟨A, c, rfl, hc, hr⟩ := hu
  clear hr hn
  go_enter Tryd.func18, Tryd.ntmps18
  go_wp2_with (first | (go_at_call 46; refine (HF.out _ (HU.out _ _)).mono ?_; rintro e w1 ⟨rfl, hb⟩; have hb1 := below_one _ hb; have H2 := (C3.new w (.bool b) (.int .u64 m) (.int .i64 k) 32).below hb1; have HB := Lib.hid (below_one _ hb1); obtain ⟨c0, c1, c2, f0, f1, f2, hz⟩ := H2; clear hb hb1))
  go_ret
  exact ⟨rfl, below_at HB.out _⟩

/-- Below, closed to the walk. -/
def Bel (w w' : World) : Prop := Below w.heap.size w w'
theorem Bel.by_ {w w1 w2 : World} (h : Bel w w1) (k : Below w1.heap.size w1 w2) : Bel w w2 := below_by h k
theorem Bel.drew {w w1 : World} (h : Bel w w1) : Bel w w1.drew := below_drew h

/-- What is held of a decimal in memory is held behind a call. -/
theorem held_call {w w1 w2 : World} {g : Nat} {a b c : Value} (h : w1.cell? ⟨g, 0, none⟩ = some a ∧ w1.cell? ⟨g, 1, none⟩ = some b ∧ w1.cell? ⟨g, 2, none⟩ = some c ∧ Bel w w1) (hb : Below w1.heap.size w1 w2) :
    w2.cell? ⟨g, 0, none⟩ = some a ∧ w2.cell? ⟨g, 1, none⟩ = some b ∧ w2.cell? ⟨g, 2, none⟩ = some c ∧ Bel w w2 :=
  ⟨pw_cell_below hb h.1, pw_cell_below hb h.2.1, pw_cell_below hb h.2.2.1, h.2.2.2.by_ hb⟩

set_option maxHeartbeats 600000 in
set_option maxRecDepth 100000 in
theorem law_ok (v : Int) (s : Nat) (w : World) (hs : s ≤ 19) (h1 : -9223372036854775808 ≤ v) (h2 : v ≤ 9223372036854775807) :
    Calls Tryd.prog 4 #[.int .i64 v, .int .i64 s] w fun e w' => e = .returned (.bool true) ∧ Below w.heap.size w w' := by
  have HF := Lib.hid (fixNew_ok v s w hs h1 h2)
  have HW := Lib.hid (fun W => wholeOf_any v W h1 h2)
  have HL := Lib.hid (fun b u W hW => fixLike_any b v.natAbs s b u v.natAbs s W hW (by omega) hs)
  have hv1 : v.natAbs ≤ 9223372036854775808 := by omega
  generalize decide (v < 0) = b at HF HW
  generalize v.natAbs = n at HF HW HL hv1
  simp only [BEq.rfl, Bool.and_self] at HL
  have g0 : decide ((s : Int) < 0) = false := decide_eq_false (by omega)
  have g1 : decide ((19 : Int) < s) = false := decide_eq_false (by omega)
  have hw : IntKind.i64.wrap (-(s : Int)) = -(s : Int) := IntWalk.i64_in _ (by omega)
  go_enter Tryd.func4, Tryd.ntmps4
  go_wp2_with (first | (go_at_call 17; refine HF.out.mono ?_; rintro e w1 ⟨rfl, hb⟩; have HB : Bel w w1 := hb; clear hb))
  go_region_with (first | (go_at_call 19; refine (HW.out _).mono ?_; rintro e w2 ⟨u, rfl, hn, hb⟩; obtain ⟨A, c, rfl⟩ := hn.slice; have HI := Lib.hid hn; have HB2 := Bel.by_ (Bel.drew (HB.by_ (below_at (Below.refl _ _) (.cells #[.bool b, .int .u64 n, .int .i64 s] 32)))) hb; obtain ⟨k0, k1, k2, _, _, _, hz⟩ := (((C3.new w1 (.bool b) (.int .u64 n) (.int .i64 s) 32).below (below_drew (Below.refl _ _))).below hb); clear hn hb) | (go_at_call 18; refine (HL.out _ _ _ HI.out.isNat).mono ?_; rintro e w3 ⟨rfl, hb⟩; have HB3 := Bel.by_ HB2 hb; clear hb))
  all_goals (go_wp2; go_ret; exact ⟨rfl, HB3⟩)

set_option maxHeartbeats 600000 in
theorem law_bad (v s : Int) (w : World) (hs : s < 0 ∨ 19 < s) (h1 : -9223372036854775808 ≤ v) (h2 : v ≤ 9223372036854775807) (he : ErrAt w) :
    Calls Tryd.prog 4 #[.int .i64 v, .int .i64 s] w fun e w' => e = .returned (.bool true) ∧ Below w.heap.size w w' := by
  have HF := Lib.hid (fixNew_bad v s w hs h1 h2 he)
  clear he
  by_cases h0 : s < 0
  · have g0 : decide (s < 0) = true := decide_eq_true h0
    clear h0 hs
    go_enter Tryd.func4, Tryd.ntmps4
    go_wp2_with (first | (go_at_call 17; refine HF.out.mono ?_; rintro e w1 ⟨rfl, hb⟩; have HB : Bel w w1 := hb; clear hb))
    go_ret
    exact ⟨rfl, below_at HB _⟩
  · have g0 : decide (s < 0) = false := decide_eq_false h0
    have g1 : decide (19 < s) = true := decide_eq_true (by omega)
    clear h0 hs
    go_enter Tryd.func4, Tryd.ntmps4
    go_wp2_with (first | (go_at_call 17; refine HF.out.mono ?_; rintro e w1 ⟨rfl, hb⟩; have HB : Bel w w1 := hb; clear hb))
    go_ret
    exact ⟨rfl, below_at HB _⟩

/-- The law, for every value and scale. -/
theorem law_any (v s : Int) (w : World) (h1 : -9223372036854775808 ≤ v) (h2 : v ≤ 9223372036854775807) (he : ErrAt w) :
    Calls Tryd.prog 4 #[.int .i64 v, .int .i64 s] w fun e w' => e = .returned (.bool true) ∧ Below w.heap.size w w' := by
  by_cases hs : s < 0 ∨ 19 < s
  · exact law_bad v s w hs h1 h2 he
  · obtain ⟨n, rfl⟩ := Int.eq_ofNat_of_zero_le (show 0 ≤ s by omega)
    exact law_ok v n w (by omega) h1 h2
end Go.Proofs.YthkmgjkajllemaaDoor.FixLike

/- spec.Int: a whole number as a fraction. -/
namespace Go.Proofs.YthkmgjkajllemaaDoor.Spec
open Go.RowKit Go.Proofs.YthkmgjkajllemaaDoorW.PrintWords Go.Proofs.YthkmgjkajllemaaDoor.Num Go.Proofs.YthkmgjkajllemaaDoor.Str Go.Proofs.YthkmgjkajllemaaDoor.Nats Go.Proofs.YthkmgjkajllemaaDoor.Val Go.Proofs.YthkmgjkajllemaaDoor.Arith Go.Proofs.YthkmgjkajllemaaDoor.NatOps Go.Proofs.YthkmgjkajllemaaDoor.Make
set_option linter.unusedVariables false
set_option linter.unusedSimpArgs false

set_option maxHeartbeats 1000000 in
theorem int_any (x : Int) (w : World) (h1 : -9223372036854775808 ≤ x) (h2 : x ≤ 9223372036854775807) :
    Calls Tryd.prog 25 #[.int .i64 x] w fun e w' => ∃ u v, e = .returned (.agg #[.bool (decide (x < 0)), u, v]) ∧ IsNew w' w.heap.size u x.natAbs ∧ IsNew w' w.heap.size v 1 ∧ Below w.heap.size w w' := by
  have HW := Lib.hid (fun W => FixLike.wholeOf_any x W h1 h2)
  have HO := Lib.hid (fun W => one_any W)
  generalize decide (x < 0) = b at HW ⊢
  generalize x.natAbs = m at HW ⊢
  have HS : Hid (St w (w.alloc (.cells #[.bool false, .slice none 0 0, .slice none 0 0] 45))
      [(w.heap.size, 0, .bool false), (w.heap.size, 1, .slice none 0 0), (w.heap.size, 2, .slice none 0 0)] w.heap.size 3) :=
    ⟨Cells.box3 (Cells.nil _) rfl _ _ _ _, fun o _ => free_box rfl _ _ _, by simp, (Below.refl _ _).alloc (Nat.le_refl _) _⟩
  go_enter Tryd.func25, Tryd.ntmps25
  go_wp2_with (first | (go_at_call 19; go_must (refine (HW.out _).mono ?_); rintro e w2 ⟨r, rfl, hn, hb⟩; have HS2 := Lib.hid (HS.out.call hb); have HG2 := Lib.hid hn; obtain ⟨A2, c2, rfl⟩ := hn.slice; clear hn hb) | (go_at_call 55; go_must (refine (HO.out _).mono ?_); rintro e w3 ⟨r, rfl, hn, hb⟩; have HS3 := Lib.hid (HS2.out.call hb); have HG3 := Lib.hid (HG2.out.below hb); have HG3' := Lib.hid hn; obtain ⟨A3, c3, rfl⟩ := hn.slice; obtain ⟨d0, d1, d2, -⟩ := HS3.out.cells; have f0 := HS3.out.free 0 (by omega); have f1 := HS3.out.free 1 (by omega); have f2 := HS3.out.free 2 (by omega); have hz := HS3.out.lt; clear hn hb))
  exact bodyPost_ret (v := .agg #[.bool b, .slice A2 (limbs m).length c2, .slice A3 (limbs 1).length c3]) (by simp [results, Tryd.results25, go_sem, d0, d1, d2, f0, f1, f2, hz]) rfl ⟨_, _, rfl, (((HG3.out.set (by exact HS.out.lt) _).set (by exact HS.out.lt) _).set (by exact HS.out.lt) _).lower HS.out.below.size, (((HG3'.out.set (by exact HS2.out.lt) _).set (by exact HS2.out.lt) _).set (by exact HS2.out.lt) _).lower HS2.out.below.size, ((HS3.out.below.setCell (p := ⟨w.heap.size, 0, none⟩) (Nat.le_refl _) _).setCell (p := ⟨w.heap.size, 1, none⟩) (Nat.le_refl _) _).setCell (p := ⟨w.heap.size, 2, none⟩) (Nat.le_refl _) _⟩
end Go.Proofs.YthkmgjkajllemaaDoor.Spec

/- The law FnFixInts answers true for every decimal and every scale. -/
namespace Go.Proofs.YthkmgjkajllemaaDoor.Spec
open Go.RowKit Go.Proofs.YthkmgjkajllemaaDoorW.PrintWords Go.Proofs.YthkmgjkajllemaaDoor.Num Go.Proofs.YthkmgjkajllemaaDoor.Str Go.Proofs.YthkmgjkajllemaaDoor.Nats Go.Proofs.YthkmgjkajllemaaDoor.Val Go.Proofs.YthkmgjkajllemaaDoor.Arith Go.Proofs.YthkmgjkajllemaaDoor.NatOps Go.Proofs.YthkmgjkajllemaaDoor.Make Go.Proofs.YthkmgjkajllemaaDoor.Fint
set_option linter.unusedVariables false
set_option linter.unusedSimpArgs false

/-- Numbers in memory. -/
def NatsAt (W : World) (b : Nat) : List (Value × Nat) → Prop
  | [] => True
  | (v, n) :: l => IsNew W b v n ∧ NatsAt W b l
theorem NatsAt.call {W W' : World} {b : Nat} (hb : Below W.heap.size W W') : ∀ {l : List (Value × Nat)}, NatsAt W b l → NatsAt W' b l
  | [], _ => trivial
  | (v, n) :: l, h => ⟨h.1.below hb, NatsAt.call hb h.2⟩
/-- What a long function holds: cells, numbers, and what was there before. -/
structure Hold (w W : World) (l : List (Nat × Nat × Value)) (ns : List (Value × Nat)) : Prop where
  cells : Cells W l
  nats : NatsAt W w.heap.size ns
  below : Below w.heap.size w W
theorem Hold.call {w W W' : World} {l : List (Nat × Nat × Value)} {ns : List (Value × Nat)} (h : Hold w W l ns) (hb : Below W.heap.size W W') : Hold w W' l ns := ⟨h.cells.call hb, h.nats.call hb, below_by h.below hb⟩
theorem Hold.nat {w W : World} {l : List (Nat × Nat × Value)} {ns : List (Value × Nat)} (h : Hold w W l ns) {b : Nat} {u : Value} {n : Nat} (hu : IsNew W b u n) (hb : w.heap.size ≤ b) : Hold w W l ((u, n) :: ns) := ⟨h.cells, ⟨hu.lower hb, h.nats⟩, h.below⟩
theorem Hold.box3 {w W : World} {l : List (Nat × Nat × Value)} {ns : List (Value × Nat)} (h : Hold w W l ns) (u v x : Value) (T : TypeId) : Hold w (W.alloc (.cells #[u, v, x] T)) ((W.heap.size, 0, u) :: (W.heap.size, 1, v) :: (W.heap.size, 2, x) :: l) ns :=
  have hb : Below W.heap.size W (W.alloc (.cells #[u, v, x] T)) := (Below.refl _ _).alloc (Nat.le_refl _) _
  ⟨Cells.box3 h.cells rfl _ _ _ _, h.nats.call hb, below_by h.below hb⟩
theorem Hold.box2 {w W : World} {l : List (Nat × Nat × Value)} {ns : List (Value × Nat)} (h : Hold w W l ns) (u v : Value) (T : TypeId) : Hold w (W.alloc (.cells #[u, v] T)) ((W.heap.size, 0, u) :: (W.heap.size, 1, v) :: l) ns :=
  have hb : Below W.heap.size W (W.alloc (.cells #[u, v] T)) := (Below.refl _ _).alloc (Nat.le_refl _) _
  ⟨Cells.box2 h.cells rfl _ _ _, h.nats.call hb, below_by h.below hb⟩
theorem Hold.drew {w W : World} {l : List (Nat × Nat × Value)} {ns : List (Value × Nat)} (h : Hold w W l ns) : Hold w W.drew l ns := h.call (below_drew (Below.refl _ _))

set_option maxHeartbeats 16000000 in
set_option maxRecDepth 100000 in
theorem ints_in (neg : Bool) (n s t m q : Nat) (a c M N : Int) (w : World) (hs : s ≤ 19) (ht : t ≤ 18) (hn : n ≤ 9999999999999999999) (hm : rq 5 (neg && decide (0 < n)) (n * 10 ^ t) (10 ^ s) = m) (hml : m < 1000000000 ^ 5) (hq : m / 10 ^ t = q)
    (hM : (4611686018427387904 : Int) + 4611686018427387903 = M) (hN : -M + -1 = N) (ha : -9223372036854775808 ≤ a ∧ a ≤ 9223372036854775807) (hcc : -9223372036854775808 ≤ c ∧ c ≤ 9223372036854775807)
    (h32 : ∀ W, Below w.heap.size w W → Calls Tryd.prog 32 #[.agg #[.bool neg, .int .u64 n, .int .i64 s], .int .i64 t] W fun e w' => e = .returned (.tuple #[.int .i64 a, .int .i64 c, .bool true, .int .i64 0]) ∧ Below W.heap.size W w')
    (hc1 : decide (icmp (fz (neg && decide (0 < n)) q) M ≤ 0) = true) (hc2 : decide (0 ≤ icmp (fz (neg && decide (0 < n)) q) N) = true) (hsum : a * ((10 ^ t : Nat) : Int) + c = fz (neg && decide (0 < n)) m) (haq : a = fz (neg && decide (0 < n)) q) :
    Calls Tryd.prog 7 #[.agg #[.bool neg, .int .u64 n, .int .i64 s], .int .i64 t] w fun e w' => e = .returned (.bool true) ∧ Below w.heap.size w w' := by
  have hl3 := limbs_length 3 n (by omega)
  have hp3 := limbs_length 3 (10 ^ s) (Nat.lt_of_le_of_lt (Nat.pow_le_pow_right (by decide) hs) (by decide))
  have hp3t := limbs_length 3 (10 ^ t) (Nat.lt_of_le_of_lt (Nat.pow_le_pow_right (by decide) (show t ≤ 19 by omega)) (by decide))
  have hm5 := limbs_length 5 m hml
  have hqm : q ≤ m := by rw [← hq]; exact Nat.div_le_self _ _
  have hq5 := LongDiv.len_mono hqm
  have hM3 := limbs_length 3 M.natAbs (by omega)
  have hN3 := limbs_length 3 N.natAbs (by omega)
  have ha3 := limbs_length 3 a.natAbs (by omega)
  have hc3 := limbs_length 3 c.natAbs (by omega)
  have X29 := Lib.hid (fun W => ofFix_ok neg n s W (by omega) hn (by omega) (by omega))
  rw [show IntKind.i64.wrap (-(s : Int)) = -(s : Int) from IntWalk.i64_in _ (by omega)] at X29
  have X30a := Lib.hid (fun u b0 W (h1 : IsNew W b0 u n) h2 => decFrac_any (fz neg n) s b0 u W (by rw [fz_abs]; exact h1) h2 (by omega) (by rw [fz_abs]; omega))
  rw [fz_neg, fz_abs] at X30a
  have X26a := Lib.hid (fun u v W h1 h2 => round_any (neg && decide (0 < n)) n (10 ^ s) t 5 u v W h1 h2 (Nat.pow_pos (by decide)) (by omega) (by omega) (by omega))
  rw [hm] at X26a
  have X30b := Lib.hid (fun u b0 W (h1 : IsNew W b0 u m) h2 => decFrac_any (fz (neg && decide (0 < n)) m) t b0 u W (by rw [fz_abs]; exact h1) h2 (by omega) (by rw [fz_abs]; omega))
  rw [fz_neg, fz_abs] at X30b
  have X26b := Lib.hid (fun u v W h1 h2 => round_any (neg && decide (0 < n) && decide (0 < m)) m (10 ^ t) 0 0 u v W h1 h2 (Nat.pow_pos (by decide)) (by omega) (by omega) (by omega))
  rw [Nat.pow_zero, Nat.mul_one, rq_cut, hq, show (neg && decide (0 < n) && decide (0 < m) && decide (0 < q)) = (neg && decide (0 < n) && decide (0 < q)) by
    by_cases h : 0 < q
    · rw [decide_eq_true h, decide_eq_true (show 0 < m by omega)]; simp
    · rw [decide_eq_false h]; simp, show -(((0 : Nat)) : Int) = 0 from rfl, show ((0 : Nat) : Int) = 0 from rfl] at X26b
  have X19a := Lib.hid (fun W => FixLike.wholeOf_any 4611686018427387904 W (by omega) (by omega))
  have X19b := Lib.hid (fun W => FixLike.wholeOf_any 4611686018427387903 W (by omega) (by omega))
  have X31a := Lib.hid (fun u v W h1 h2 => wholeAdd_int 4611686018427387904 4611686018427387903 u v W h1 h2 (by have := limbs_length 3 (4611686018427387904 : Int).natAbs (by decide); omega) (by have := limbs_length 3 (4611686018427387903 : Int).natAbs (by decide); omega))
  rw [hM] at X31a
  have X32 := Lib.hid h32
  have X33a := Lib.hid (fun u v W (h1 : IsNat W u q) h2 => wholeCmp_any (fz (neg && decide (0 < n)) q) M u v W (by rw [fz_abs]; exact h1) h2 (by rw [fz_abs]; omega) (by omega))
  have X34 := Lib.hid (fun u W h1 => wholeMinus_int M u W h1)
  have X19c := Lib.hid (fun W => FixLike.wholeOf_any (-1) W (by omega) (by omega))
  have X31b := Lib.hid (fun u v W (h1 : IsNat W u M.natAbs) h2 => wholeAdd_int (-M) (-1) u v W (by rw [Int.natAbs_neg]; exact h1) h2 (by rw [Int.natAbs_neg]; omega) (by have := limbs_length 1 (-1 : Int).natAbs (by decide); omega))
  rw [hN] at X31b
  have X33b := Lib.hid (fun u v W (h1 : IsNat W u q) h2 => wholeCmp_any (fz (neg && decide (0 < n)) q) N u v W (by rw [fz_abs]; exact h1) h2 (by rw [fz_abs]; omega) (by omega))
  have X19d := Lib.hid (fun W => FixLike.wholeOf_any a W ha.1 ha.2)
  have X30c := Lib.hid (fun u b0 W h1 h2 => decFrac_any a 0 b0 u W h1 h2 (by omega) (by omega))
  rw [show -(((0 : Nat)) : Int) = 0 from rfl, show (10 : Nat) ^ 0 = 1 from rfl] at X30c
  have X19e := Lib.hid (fun W => FixLike.wholeOf_any c W hcc.1 hcc.2)
  have X30d := Lib.hid (fun u b0 W h1 h2 => decFrac_any c t b0 u W h1 h2 (by omega) (by omega))
  have X35 := Lib.hid (fun u v u' v' W h1 h2 h3 h4 => fracAdd_any a c 1 (10 ^ t) u v u' v' W h1 h2 h3 h4 (by omega) (by rw [limbs_one 1 (by omega) (by omega)]; simp) (by omega) (by omega))
  rw [fz_neg] at X33a X33b
  have hS1 : a * ((10 ^ t : Nat) : Int) + c * ((1 : Nat) : Int) = fz (neg && decide (0 < n)) m := by rw [← hsum]; simp
  rw [hS1, Nat.one_mul] at X35
  rw [fz_neg, fz_abs] at X35
  have X36 := Lib.hid (fun u v u' v' W (h1 : IsNat W u m) h2 (h3 : IsNat W u' m) h4 => fracCmp_any (fz (neg && decide (0 < n)) m) (fz (neg && decide (0 < n)) m) (10 ^ t) (10 ^ t) u v u' v' W (by rw [fz_abs]; exact h1) h2 (by rw [fz_abs]; exact h3) h4 (by rw [fz_abs]; omega) (by omega) (by rw [fz_abs]; omega) (by omega) (by rw [Int.natAbs_mul, fz_abs, Int.natAbs_natCast]; have := LongDiv.len_mul m (10 ^ t); omega) (by rw [Int.natAbs_mul, fz_abs, Int.natAbs_natCast]; have := LongDiv.len_mul m (10 ^ t); omega))
  rw [icmp_zero rfl, fz_neg] at X36
  have X33c := Lib.hid (fun u v W (h1 : IsNat W u a.natAbs) (h2 : IsNat W v q) => wholeCmp_any a a u v W h1 (by rw [haq, fz_abs]; exact h2) (by omega) (by omega))
  rw [icmp_zero rfl] at X33c
  have hda : decide (a < 0) = (neg && decide (0 < n) && decide (0 < q)) := by rw [haq, fz_neg]
  have hna : a.natAbs = q := by rw [haq, fz_abs]
  rw [hda] at X19d X30c X35 X33c
  rw [hna] at X19d X30c X35 X33c
  rw [show decide ((4611686018427387904 : Int) < 0) = false from rfl] at X19a X31a
  rw [show decide ((4611686018427387903 : Int) < 0) = false from rfl] at X19b X31a
  rw [show decide ((-1 : Int) < 0) = true from rfl] at X19c X31b
  rw [show decide (M < 0) = false from decide_eq_false (by omega)] at X31a X33a X34
  rw [show decide (-M < 0) = true from decide_eq_true (by omega)] at X34 X31b
  rw [show decide (N < 0) = true from decide_eq_true (by omega)] at X31b X33b
  generalize (4611686018427387904 : Int).natAbs = KA at X19a X31a
  generalize (4611686018427387903 : Int).natAbs = KB at X19b X31a
  generalize (-1 : Int).natAbs = KC at X19c X31b
  generalize M.natAbs = KM at X31a X33a X34 X31b
  generalize N.natAbs = KN at X31b X33b
  generalize icmp (fz (neg && decide (0 < n)) q) M = i1 at X33a hc1
  generalize icmp (fz (neg && decide (0 < n)) q) N = i2 at X33b hc2
  generalize hsgm : (neg && decide (0 < n) && decide (0 < m)) = sgm at *
  generalize hsgq : (neg && decide (0 < n) && decide (0 < q)) = sgq at *
  generalize hsg : (neg && decide (0 < n)) = sg at *
  generalize decide (c < 0) = sgc at X19e X30d X35
  generalize c.natAbs = rc at X19e X30d X35
  have HB0 : Hid (Hold w (w.alloc (.cells #[.bool neg, .int .u64 n, .int .i64 s] 32)) [(w.heap.size, 0, .bool neg), (w.heap.size, 1, .int .u64 n), (w.heap.size, 2, .int .i64 s)] []) := Lib.hid ⟨Cells.box3 (Cells.nil _) rfl _ _ _ _, trivial, (Below.refl _ _).alloc (Nat.le_refl _) _⟩
  have htm : t ≤ 18 := ht
  have htw : IntKind.i64.wrap (-(t : Int)) = -(t : Int) := IntWalk.i64_in _ (by omega)
  clear hs ht hn hm hml hq hM hN ha hcc h32 hl3 hp3 hp3t hm5 hqm hq5 hM3 hN3 ha3 hc3 hsgm hsgq hsg hsum haq hS1 hda hna
  go_enter Tryd.func7, Tryd.ntmps7
  go_wp2_with fail
  refine (X29.out _).mono ?_
  rintro e w1 ⟨u1, rfl, hn1, hb⟩
  have H1 := Lib.hid (((HB0.out.call hb).nat hn1 HB0.out.below.size).box3 (.bool sg) u1 (.int .i64 (-(s : Int))) 40)
  obtain ⟨A1, c1, rfl⟩ := hn1.slice
  clear hn1 hb HB0 X29
  go_wp2_with fail
  refine (X30a.out _ _ _ H1.out.nats.1 H1.out.below.size).mono ?_
  rintro e w2 ⟨u2, v2, rfl, hu, hv, hb⟩
  have H2 := Lib.hid (((H1.out.call hb).nat hu (Nat.le_refl _)).nat hv (Nat.le_refl _))
  obtain ⟨A2, c2, rfl⟩ := hu.slice
  obtain ⟨B2, b2, rfl⟩ := hv.slice
  clear hu hv hb H1 X30a
  go_wp2_with fail
  refine (X26a.out _ _ _ H2.out.nats.2.1.isNat H2.out.nats.1.isNat).mono ?_
  rintro e w3 ⟨u3, rfl, hu, hb⟩
  have H3 := Lib.hid (((H2.out.call hb).nat hu H2.out.below.size).box3 (.bool sgm) u3 (.int .i64 (-(t : Int))) 40)
  obtain ⟨A3, c3, rfl⟩ := hu.slice
  clear hu hb H2 X26a
  go_wp2_with fail
  refine (X30b.out _ _ _ H3.out.nats.1 H3.out.below.size).mono ?_
  rintro e w4 ⟨u4, v4, rfl, hu, hv, hb⟩
  have H4 := Lib.hid (((H3.out.call hb).nat hu (Nat.le_refl _)).nat hv (Nat.le_refl _))
  obtain ⟨A4, c4, rfl⟩ := hu.slice
  obtain ⟨B4, b4, rfl⟩ := hv.slice
  clear hu hv hb H3
  go_wp2_with fail
  refine (X26b.out _ _ _ H4.out.nats.2.1.isNat H4.out.nats.1.isNat).mono ?_
  rintro e w5 ⟨u5, rfl, hu, hb⟩
  have H5 := Lib.hid (((H4.out.call hb).nat hu H4.out.below.size).box3 (.bool sgq) u5 (.int .i64 0) 40)
  obtain ⟨A5, c5, rfl⟩ := hu.slice
  clear hu hb H4 X26b
  go_wp2_with fail
  refine (X19a.out _).mono ?_
  rintro e w6 ⟨u6, rfl, hu, hb⟩
  have H6 := Lib.hid ((H5.out.call hb).nat hu H5.out.below.size)
  obtain ⟨A6, c6, rfl⟩ := hu.slice
  clear hu hb H5 X19a
  go_wp2_with fail
  refine (X19b.out _).mono ?_
  rintro e w7 ⟨u7, rfl, hu, hb⟩
  have H7 := Lib.hid ((H6.out.call hb).nat hu H6.out.below.size)
  obtain ⟨A7, c7, rfl⟩ := hu.slice
  clear hu hb H6 X19b
  go_wp2_with fail
  refine (X31a.out _ _ _ H7.out.nats.2.1.isNat H7.out.nats.1.isNat).mono ?_
  rintro e w8 ⟨u8, rfl, hu, hb⟩
  have H8 := Lib.hid (((H7.out.call hb).nat hu H7.out.below.size).box2 (.bool false) u8 37)
  obtain ⟨A8, c8, rfl⟩ := hu.slice
  clear hu hb H7 X31a
  obtain ⟨-, -, -, -, -, -, -, -, -, -, -, a0, a1, a2, -⟩ := H8.out.cells
  go_wp2_with fail
  refine (X32.out _ H8.out.below).mono ?_
  rintro e w9 ⟨rfl, hb⟩
  have H9 := Lib.hid (H8.out.call hb)
  clear hb H8 X32 a0 a1 a2
  go_wp2_with fail
  obtain ⟨bx, hbx⟩ : ∃ b, w1.heap.size = b := ⟨_, rfl⟩
  obtain ⟨bw, hbw⟩ : ∃ b, w3.heap.size = b := ⟨_, rfl⟩
  obtain ⟨bh, hbh⟩ : ∃ b, w5.heap.size = b := ⟨_, rfl⟩
  obtain ⟨bm, hbm⟩ : ∃ b, w8.heap.size = b := ⟨_, rfl⟩
  rw [hbx, hbw, hbh, hbm] at H9 ⊢
  clear hbx hbw hbh hbm
  have HD := Lib.hid H9.out.drew
  clear H9
  first | (go_region_held3 (fun W' => W'.cell? ⟨bm, 0, none⟩ = some (.bool false) ∧ W'.cell? ⟨bm, 1, none⟩ = some (.slice A8 (limbs KM).length c8) ∧ W'.cell? ⟨bh, 0, none⟩ = some (.bool sgq) ∧ W'.cell? ⟨bh, 1, none⟩ = some (.slice A5 (limbs q).length c5))
    (first | exact ⟨G5.out.cells.1, G5.out.cells.2.1, G5.out.cells.2.2.1, G5.out.cells.2.2.2.1⟩ | exact ⟨G4.out.cells.1, G4.out.cells.2.1, G4.out.cells.2.2.1, G4.out.cells.2.2.2.1⟩ | exact ⟨G3.out.cells.1, G3.out.cells.2.1, G3.out.cells.2.2.1, G3.out.cells.2.2.2.1⟩ | exact ⟨G2.out.cells.1, G2.out.cells.2.1, G2.out.cells.2.2.1, G2.out.cells.2.2.2.1⟩ | exact ⟨G1.out.cells.1, G1.out.cells.2.1, G1.out.cells.2.2.1, G1.out.cells.2.2.2.1⟩ | exact ⟨HD.out.cells.1, HD.out.cells.2.1, HD.out.cells.2.2.1, HD.out.cells.2.2.2.1⟩ | go_keep)
    (first | (go_at_call 33; first | ((refine (X33a.out _ _ _ HD.out.nats.2.2.2.1.isNat HD.out.nats.1.isNat).mono ?_); rintro e y1 ⟨rfl, hb⟩; have G1 := Lib.hid (HD.out.call hb); clear hb HD) | ((refine (X33b.out _ _ _ G4.out.nats.2.2.2.2.2.1.isNat G4.out.nats.1.isNat).mono ?_); rintro e y5 ⟨rfl, hb⟩; have G5 := Lib.hid (G4.out.call hb); clear hb G4)) | (go_at_call 34; (refine (X34.out _ _ G1.out.nats.1.isNat).mono ?_); rintro e y2 ⟨rfl, hb⟩; have G2 := Lib.hid (G1.out.call hb); clear hb G1) | (go_at_call 19; (refine (X19c.out _).mono ?_); rintro e y3 ⟨v3, rfl, hu, hb⟩; have G3 := Lib.hid ((G2.out.call hb).nat hu G2.out.below.size); obtain ⟨E3, d3, rfl⟩ := hu.slice; clear hu hb G2) | (go_at_call 31; (refine (X31b.out _ _ _ G3.out.nats.2.1.isNat G3.out.nats.1.isNat).mono ?_); rintro e y4 ⟨v4, rfl, hu, hb⟩; have G4 := Lib.hid ((G3.out.call hb).nat hu G3.out.below.size); obtain ⟨E4, d4, rfl⟩ := hu.slice; clear hu hb G3))) | fail "no"
  go_wp2_with fail
  refine (X19d.out _).mono ?_
  rintro e z1 ⟨u1', rfl, hu, hb⟩
  have J1 := Lib.hid ((G5.out.call hb).nat hu G5.out.below.size)
  obtain ⟨F1, f1, rfl⟩ := hu.slice
  clear hu hb G5
  go_wp2_with fail
  refine (X30c.out _ _ _ J1.out.nats.1 J1.out.below.size).mono ?_
  rintro e z2 ⟨u2', v2', rfl, hu, hv, hb⟩
  have J2 := Lib.hid (((J1.out.call hb).nat hu (Nat.le_refl _)).nat hv (Nat.le_refl _))
  obtain ⟨F2, f2, rfl⟩ := hu.slice
  obtain ⟨F2', f2', rfl⟩ := hv.slice
  clear hu hv hb J1 X30c
  go_wp2_with fail
  refine (X19e.out _).mono ?_
  rintro e z3 ⟨u3', rfl, hu, hb⟩
  have J3 := Lib.hid ((J2.out.call hb).nat hu J2.out.below.size)
  obtain ⟨F3, f3, rfl⟩ := hu.slice
  clear hu hb J2 X19e
  go_wp2_with fail
  refine (X30d.out _ _ _ J3.out.nats.1 J3.out.below.size).mono ?_
  rintro e z4 ⟨u4', v4', rfl, hu, hv, hb⟩
  have J4 := Lib.hid (((J3.out.call hb).nat hu (Nat.le_refl _)).nat hv (Nat.le_refl _))
  obtain ⟨F4, f4, rfl⟩ := hu.slice
  obtain ⟨F4', f4', rfl⟩ := hv.slice
  clear hu hv hb J3 X30d
  go_wp2_with fail
  refine (X35.out _ _ _ _ _ J4.out.nats.2.2.2.2.1.isNat J4.out.nats.2.2.2.1.isNat J4.out.nats.2.1.isNat J4.out.nats.1.isNat).mono ?_
  rintro e z5 ⟨u5', v5', rfl, hu, hv, hb⟩
  have J5 := Lib.hid ((((J4.out.call hb).nat hu J4.out.below.size).nat hv J4.out.below.size).box3 (.bool sgm) u5' v5' 45)
  obtain ⟨F5, f5, rfl⟩ := hu.slice
  obtain ⟨F5', f5', rfl⟩ := hv.slice
  clear hu hv hb J4 X35
  go_wp2_with fail
  obtain ⟨bf, hbf⟩ : ∃ b, z5.heap.size = b := ⟨_, rfl⟩
  rw [hbf] at J5 ⊢
  clear hbf
  have JD := Lib.hid J5.out.drew
  clear J5
  first | (go_region_held3 (fun W' => W'.cell? ⟨bf, 0, none⟩ = some (.bool sgm) ∧ W'.cell? ⟨bf, 1, none⟩ = some (.slice F5 (limbs m).length f5) ∧ W'.cell? ⟨bf, 2, none⟩ = some (.slice F5' (limbs (10 ^ t)).length f5') ∧ W'.cell? ⟨bw, 0, none⟩ = some (.bool sgm) ∧ W'.cell? ⟨bw, 1, none⟩ = some (.slice A3 (limbs m).length c3) ∧ W'.cell? ⟨bw, 2, none⟩ = some (.int .i64 (-(t : Int))) ∧ W'.cell? ⟨bh, 0, none⟩ = some (.bool sgq) ∧ W'.cell? ⟨bh, 1, none⟩ = some (.slice A5 (limbs q).length c5))
    (first | exact ⟨K4.out.cells.1, K4.out.cells.2.1, K4.out.cells.2.2.1, K4.out.cells.2.2.2.2.2.2.2.2.1, K4.out.cells.2.2.2.2.2.2.2.2.2.1, K4.out.cells.2.2.2.2.2.2.2.2.2.2.1, K4.out.cells.2.2.2.2.2.1, K4.out.cells.2.2.2.2.2.2.1⟩ | exact ⟨K3.out.cells.1, K3.out.cells.2.1, K3.out.cells.2.2.1, K3.out.cells.2.2.2.2.2.2.2.2.1, K3.out.cells.2.2.2.2.2.2.2.2.2.1, K3.out.cells.2.2.2.2.2.2.2.2.2.2.1, K3.out.cells.2.2.2.2.2.1, K3.out.cells.2.2.2.2.2.2.1⟩ | exact ⟨K2.out.cells.1, K2.out.cells.2.1, K2.out.cells.2.2.1, K2.out.cells.2.2.2.2.2.2.2.2.1, K2.out.cells.2.2.2.2.2.2.2.2.2.1, K2.out.cells.2.2.2.2.2.2.2.2.2.2.1, K2.out.cells.2.2.2.2.2.1, K2.out.cells.2.2.2.2.2.2.1⟩ | exact ⟨K1.out.cells.1, K1.out.cells.2.1, K1.out.cells.2.2.1, K1.out.cells.2.2.2.2.2.2.2.2.1, K1.out.cells.2.2.2.2.2.2.2.2.2.1, K1.out.cells.2.2.2.2.2.2.2.2.2.2.1, K1.out.cells.2.2.2.2.2.1, K1.out.cells.2.2.2.2.2.2.1⟩ | exact ⟨JD.out.cells.1, JD.out.cells.2.1, JD.out.cells.2.2.1, JD.out.cells.2.2.2.2.2.2.2.2.1, JD.out.cells.2.2.2.2.2.2.2.2.2.1, JD.out.cells.2.2.2.2.2.2.2.2.2.2.1, JD.out.cells.2.2.2.2.2.1, JD.out.cells.2.2.2.2.2.2.1⟩ | go_keep)
    (first | (go_at_call 30; (refine (X30b.out _ _ _ JD.out.nats.2.2.2.2.2.2.2.2.2.2.2.2.2.2.2.2.1 JD.out.below.size).mono ?_); rintro e y1 ⟨v6, v6', rfl, hu, hv, hb⟩; have K1 := Lib.hid (((JD.out.call hb).nat hu (Nat.le_refl _)).nat hv (Nat.le_refl _)); obtain ⟨L1, l1, rfl⟩ := hu.slice; obtain ⟨L1', l1', rfl⟩ := hv.slice; clear hu hv hb JD) | (go_at_call 36; (refine (X36.out _ _ _ _ _ K1.out.nats.2.2.2.1.isNat K1.out.nats.2.2.1.isNat K1.out.nats.2.1.isNat K1.out.nats.1.isNat).mono ?_); rintro e y2 ⟨rfl, hb⟩; have K2 := Lib.hid (K1.out.call hb); clear hb K1) | (go_at_call 19; (refine (X19d.out _).mono ?_); rintro e y3 ⟨v7, rfl, hu, hb⟩; have K3 := Lib.hid ((K2.out.call hb).nat hu K2.out.below.size); obtain ⟨L3, l3, rfl⟩ := hu.slice; clear hu hb K2) | (go_at_call 33; (refine (X33c.out _ _ _ K3.out.nats.1.isNat K3.out.nats.2.2.2.2.2.2.2.2.2.2.2.2.2.2.2.2.1.isNat).mono ?_); rintro e y4 ⟨rfl, hb⟩; have K4 := Lib.hid (K3.out.call hb); clear hb K3))) | fail "no"
  go_wp2_with fail
  go_ret
  exact ⟨rfl, K4.out.below⟩

set_option maxHeartbeats 16000000 in
set_option maxRecDepth 100000 in
theorem ints_low (neg : Bool) (n s t m q : Nat) (a c M N : Int) (w : World) (hs : s ≤ 19) (ht : t ≤ 18) (hn : n ≤ 9999999999999999999) (hm : rq 5 (neg && decide (0 < n)) (n * 10 ^ t) (10 ^ s) = m) (hml : m < 1000000000 ^ 5) (hq : m / 10 ^ t = q)
    (hM : (4611686018427387904 : Int) + 4611686018427387903 = M) (hN : -M + -1 = N) (ha : -9223372036854775808 ≤ a ∧ a ≤ 9223372036854775807) (hcc : -9223372036854775808 ≤ c ∧ c ≤ 9223372036854775807)
    (h32 : ∀ W, Below w.heap.size w W → Calls Tryd.prog 32 #[.agg #[.bool neg, .int .u64 n, .int .i64 s], .int .i64 t] W fun e w' => e = .returned (.tuple #[.int .i64 a, .int .i64 c, .bool false, .int .i64 0]) ∧ Below W.heap.size W w')
    (hc1 : decide (icmp (fz (neg && decide (0 < n)) q) M ≤ 0) = true) (hc2 : decide (0 ≤ icmp (fz (neg && decide (0 < n)) q) N) = false) :
    Calls Tryd.prog 7 #[.agg #[.bool neg, .int .u64 n, .int .i64 s], .int .i64 t] w fun e w' => e = .returned (.bool true) ∧ Below w.heap.size w w' := by
  have hl3 := limbs_length 3 n (by omega)
  have hp3 := limbs_length 3 (10 ^ s) (Nat.lt_of_le_of_lt (Nat.pow_le_pow_right (by decide) hs) (by decide))
  have hp3t := limbs_length 3 (10 ^ t) (Nat.lt_of_le_of_lt (Nat.pow_le_pow_right (by decide) (show t ≤ 19 by omega)) (by decide))
  have hm5 := limbs_length 5 m hml
  have hqm : q ≤ m := by rw [← hq]; exact Nat.div_le_self _ _
  have hq5 := LongDiv.len_mono hqm
  have hM3 := limbs_length 3 M.natAbs (by omega)
  have hN3 := limbs_length 3 N.natAbs (by omega)
  have ha3 := limbs_length 3 a.natAbs (by omega)
  have hc3 := limbs_length 3 c.natAbs (by omega)
  have X29 := Lib.hid (fun W => ofFix_ok neg n s W (by omega) hn (by omega) (by omega))
  rw [show IntKind.i64.wrap (-(s : Int)) = -(s : Int) from IntWalk.i64_in _ (by omega)] at X29
  have X30a := Lib.hid (fun u b0 W (h1 : IsNew W b0 u n) h2 => decFrac_any (fz neg n) s b0 u W (by rw [fz_abs]; exact h1) h2 (by omega) (by rw [fz_abs]; omega))
  rw [fz_neg, fz_abs] at X30a
  have X26a := Lib.hid (fun u v W h1 h2 => round_any (neg && decide (0 < n)) n (10 ^ s) t 5 u v W h1 h2 (Nat.pow_pos (by decide)) (by omega) (by omega) (by omega))
  rw [hm] at X26a
  have X30b := Lib.hid (fun u b0 W (h1 : IsNew W b0 u m) h2 => decFrac_any (fz (neg && decide (0 < n)) m) t b0 u W (by rw [fz_abs]; exact h1) h2 (by omega) (by rw [fz_abs]; omega))
  rw [fz_neg, fz_abs] at X30b
  have X26b := Lib.hid (fun u v W h1 h2 => round_any (neg && decide (0 < n) && decide (0 < m)) m (10 ^ t) 0 0 u v W h1 h2 (Nat.pow_pos (by decide)) (by omega) (by omega) (by omega))
  rw [Nat.pow_zero, Nat.mul_one, rq_cut, hq, show (neg && decide (0 < n) && decide (0 < m) && decide (0 < q)) = (neg && decide (0 < n) && decide (0 < q)) by
    by_cases h : 0 < q
    · rw [decide_eq_true h, decide_eq_true (show 0 < m by omega)]; simp
    · rw [decide_eq_false h]; simp, show -(((0 : Nat)) : Int) = 0 from rfl, show ((0 : Nat) : Int) = 0 from rfl] at X26b
  have X19a := Lib.hid (fun W => FixLike.wholeOf_any 4611686018427387904 W (by omega) (by omega))
  have X19b := Lib.hid (fun W => FixLike.wholeOf_any 4611686018427387903 W (by omega) (by omega))
  have X31a := Lib.hid (fun u v W h1 h2 => wholeAdd_int 4611686018427387904 4611686018427387903 u v W h1 h2 (by have := limbs_length 3 (4611686018427387904 : Int).natAbs (by decide); omega) (by have := limbs_length 3 (4611686018427387903 : Int).natAbs (by decide); omega))
  rw [hM] at X31a
  have X32 := Lib.hid h32
  have X33a := Lib.hid (fun u v W (h1 : IsNat W u q) h2 => wholeCmp_any (fz (neg && decide (0 < n)) q) M u v W (by rw [fz_abs]; exact h1) h2 (by rw [fz_abs]; omega) (by omega))
  have X34 := Lib.hid (fun u W h1 => wholeMinus_int M u W h1)
  have X19c := Lib.hid (fun W => FixLike.wholeOf_any (-1) W (by omega) (by omega))
  have X31b := Lib.hid (fun u v W (h1 : IsNat W u M.natAbs) h2 => wholeAdd_int (-M) (-1) u v W (by rw [Int.natAbs_neg]; exact h1) h2 (by rw [Int.natAbs_neg]; omega) (by have := limbs_length 1 (-1 : Int).natAbs (by decide); omega))
  rw [hN] at X31b
  have X33b := Lib.hid (fun u v W (h1 : IsNat W u q) h2 => wholeCmp_any (fz (neg && decide (0 < n)) q) N u v W (by rw [fz_abs]; exact h1) h2 (by rw [fz_abs]; omega) (by omega))
  have X19d := Lib.hid (fun W => FixLike.wholeOf_any a W ha.1 ha.2)
  have X30c := Lib.hid (fun u b0 W h1 h2 => decFrac_any a 0 b0 u W h1 h2 (by omega) (by omega))
  rw [show -(((0 : Nat)) : Int) = 0 from rfl, show (10 : Nat) ^ 0 = 1 from rfl] at X30c
  have X19e := Lib.hid (fun W => FixLike.wholeOf_any c W hcc.1 hcc.2)
  have X30d := Lib.hid (fun u b0 W h1 h2 => decFrac_any c t b0 u W h1 h2 (by omega) (by omega))
  have X35 := Lib.hid (fun u v u' v' W h1 h2 h3 h4 => fracAdd_any a c 1 (10 ^ t) u v u' v' W h1 h2 h3 h4 (by omega) (by rw [limbs_one 1 (by omega) (by omega)]; simp) (by omega) (by omega))
  rw [fz_neg] at X33a X33b
  rw [show decide ((4611686018427387904 : Int) < 0) = false from rfl] at X19a X31a
  rw [show decide ((4611686018427387903 : Int) < 0) = false from rfl] at X19b X31a
  rw [show decide ((-1 : Int) < 0) = true from rfl] at X19c X31b
  rw [show decide (M < 0) = false from decide_eq_false (by omega)] at X31a X33a X34
  rw [show decide (-M < 0) = true from decide_eq_true (by omega)] at X34 X31b
  rw [show decide (N < 0) = true from decide_eq_true (by omega)] at X31b X33b
  generalize (4611686018427387904 : Int).natAbs = KA at X19a X31a
  generalize (4611686018427387903 : Int).natAbs = KB at X19b X31a
  generalize (-1 : Int).natAbs = KC at X19c X31b
  generalize M.natAbs = KM at X31a X33a X34 X31b
  generalize N.natAbs = KN at X31b X33b
  generalize icmp (fz (neg && decide (0 < n)) q) M = i1 at X33a hc1
  generalize icmp (fz (neg && decide (0 < n)) q) N = i2 at X33b hc2
  generalize hsgm : (neg && decide (0 < n) && decide (0 < m)) = sgm at *
  generalize hsgq : (neg && decide (0 < n) && decide (0 < q)) = sgq at *
  generalize hsg : (neg && decide (0 < n)) = sg at *
  generalize decide (a * ((10 ^ t : Nat) : Int) + c * ((1 : Nat) : Int) < 0) = sgs at X35
  generalize (a * ((10 ^ t : Nat) : Int) + c * ((1 : Nat) : Int)).natAbs = KS at X35
  generalize decide (a < 0) = sga at X19d X30c X35
  generalize a.natAbs = qa at X19d X30c X35
  generalize 1 * 10 ^ t = ten at X35
  generalize decide (c < 0) = sgc at X19e X30d X35
  generalize c.natAbs = rc at X19e X30d X35
  have HB0 : Hid (Hold w (w.alloc (.cells #[.bool neg, .int .u64 n, .int .i64 s] 32)) [(w.heap.size, 0, .bool neg), (w.heap.size, 1, .int .u64 n), (w.heap.size, 2, .int .i64 s)] []) := Lib.hid ⟨Cells.box3 (Cells.nil _) rfl _ _ _ _, trivial, (Below.refl _ _).alloc (Nat.le_refl _) _⟩
  have htm : t ≤ 18 := ht
  have htw : IntKind.i64.wrap (-(t : Int)) = -(t : Int) := IntWalk.i64_in _ (by omega)
  clear hs ht hn hm hml hq hM hN ha hcc h32 hl3 hp3 hp3t hm5 hqm hq5 hM3 hN3 ha3 hc3 hsgm hsgq hsg
  go_enter Tryd.func7, Tryd.ntmps7
  go_wp2_with fail
  refine (X29.out _).mono ?_
  rintro e w1 ⟨u1, rfl, hn1, hb⟩
  have H1 := Lib.hid (((HB0.out.call hb).nat hn1 HB0.out.below.size).box3 (.bool sg) u1 (.int .i64 (-(s : Int))) 40)
  obtain ⟨A1, c1, rfl⟩ := hn1.slice
  clear hn1 hb HB0 X29
  go_wp2_with fail
  refine (X30a.out _ _ _ H1.out.nats.1 H1.out.below.size).mono ?_
  rintro e w2 ⟨u2, v2, rfl, hu, hv, hb⟩
  have H2 := Lib.hid (((H1.out.call hb).nat hu (Nat.le_refl _)).nat hv (Nat.le_refl _))
  obtain ⟨A2, c2, rfl⟩ := hu.slice
  obtain ⟨B2, b2, rfl⟩ := hv.slice
  clear hu hv hb H1 X30a
  go_wp2_with fail
  refine (X26a.out _ _ _ H2.out.nats.2.1.isNat H2.out.nats.1.isNat).mono ?_
  rintro e w3 ⟨u3, rfl, hu, hb⟩
  have H3 := Lib.hid (((H2.out.call hb).nat hu H2.out.below.size).box3 (.bool sgm) u3 (.int .i64 (-(t : Int))) 40)
  obtain ⟨A3, c3, rfl⟩ := hu.slice
  clear hu hb H2 X26a
  go_wp2_with fail
  refine (X30b.out _ _ _ H3.out.nats.1 H3.out.below.size).mono ?_
  rintro e w4 ⟨u4, v4, rfl, hu, hv, hb⟩
  have H4 := Lib.hid (((H3.out.call hb).nat hu (Nat.le_refl _)).nat hv (Nat.le_refl _))
  obtain ⟨A4, c4, rfl⟩ := hu.slice
  obtain ⟨B4, b4, rfl⟩ := hv.slice
  clear hu hv hb H3
  go_wp2_with fail
  refine (X26b.out _ _ _ H4.out.nats.2.1.isNat H4.out.nats.1.isNat).mono ?_
  rintro e w5 ⟨u5, rfl, hu, hb⟩
  have H5 := Lib.hid (((H4.out.call hb).nat hu H4.out.below.size).box3 (.bool sgq) u5 (.int .i64 0) 40)
  obtain ⟨A5, c5, rfl⟩ := hu.slice
  clear hu hb H4 X26b
  go_wp2_with fail
  refine (X19a.out _).mono ?_
  rintro e w6 ⟨u6, rfl, hu, hb⟩
  have H6 := Lib.hid ((H5.out.call hb).nat hu H5.out.below.size)
  obtain ⟨A6, c6, rfl⟩ := hu.slice
  clear hu hb H5 X19a
  go_wp2_with fail
  refine (X19b.out _).mono ?_
  rintro e w7 ⟨u7, rfl, hu, hb⟩
  have H7 := Lib.hid ((H6.out.call hb).nat hu H6.out.below.size)
  obtain ⟨A7, c7, rfl⟩ := hu.slice
  clear hu hb H6 X19b
  go_wp2_with fail
  refine (X31a.out _ _ _ H7.out.nats.2.1.isNat H7.out.nats.1.isNat).mono ?_
  rintro e w8 ⟨u8, rfl, hu, hb⟩
  have H8 := Lib.hid (((H7.out.call hb).nat hu H7.out.below.size).box2 (.bool false) u8 37)
  obtain ⟨A8, c8, rfl⟩ := hu.slice
  clear hu hb H7 X31a
  obtain ⟨-, -, -, -, -, -, -, -, -, -, -, a0, a1, a2, -⟩ := H8.out.cells
  go_wp2_with fail
  refine (X32.out _ H8.out.below).mono ?_
  rintro e w9 ⟨rfl, hb⟩
  have H9 := Lib.hid (H8.out.call hb)
  clear hb H8 X32 a0 a1 a2
  go_wp2_with fail
  obtain ⟨bx, hbx⟩ : ∃ b, w1.heap.size = b := ⟨_, rfl⟩
  obtain ⟨bw, hbw⟩ : ∃ b, w3.heap.size = b := ⟨_, rfl⟩
  obtain ⟨bh, hbh⟩ : ∃ b, w5.heap.size = b := ⟨_, rfl⟩
  obtain ⟨bm, hbm⟩ : ∃ b, w8.heap.size = b := ⟨_, rfl⟩
  rw [hbx, hbw, hbh, hbm] at H9 ⊢
  clear hbx hbw hbh hbm
  have HD := Lib.hid H9.out.drew
  clear H9
  first | (go_region_held3 (fun W' => W'.cell? ⟨bm, 0, none⟩ = some (.bool false) ∧ W'.cell? ⟨bm, 1, none⟩ = some (.slice A8 (limbs KM).length c8) ∧ W'.cell? ⟨bh, 0, none⟩ = some (.bool sgq) ∧ W'.cell? ⟨bh, 1, none⟩ = some (.slice A5 (limbs q).length c5))
    (first | exact ⟨G5.out.cells.1, G5.out.cells.2.1, G5.out.cells.2.2.1, G5.out.cells.2.2.2.1⟩ | exact ⟨G4.out.cells.1, G4.out.cells.2.1, G4.out.cells.2.2.1, G4.out.cells.2.2.2.1⟩ | exact ⟨G3.out.cells.1, G3.out.cells.2.1, G3.out.cells.2.2.1, G3.out.cells.2.2.2.1⟩ | exact ⟨G2.out.cells.1, G2.out.cells.2.1, G2.out.cells.2.2.1, G2.out.cells.2.2.2.1⟩ | exact ⟨G1.out.cells.1, G1.out.cells.2.1, G1.out.cells.2.2.1, G1.out.cells.2.2.2.1⟩ | exact ⟨HD.out.cells.1, HD.out.cells.2.1, HD.out.cells.2.2.1, HD.out.cells.2.2.2.1⟩ | go_keep)
    (first | (go_at_call 33; first | ((refine (X33a.out _ _ _ HD.out.nats.2.2.2.1.isNat HD.out.nats.1.isNat).mono ?_); rintro e y1 ⟨rfl, hb⟩; have G1 := Lib.hid (HD.out.call hb); clear hb HD) | ((refine (X33b.out _ _ _ G4.out.nats.2.2.2.2.2.1.isNat G4.out.nats.1.isNat).mono ?_); rintro e y5 ⟨rfl, hb⟩; have G5 := Lib.hid (G4.out.call hb); clear hb G4)) | (go_at_call 34; (refine (X34.out _ _ G1.out.nats.1.isNat).mono ?_); rintro e y2 ⟨rfl, hb⟩; have G2 := Lib.hid (G1.out.call hb); clear hb G1) | (go_at_call 19; (refine (X19c.out _).mono ?_); rintro e y3 ⟨v3, rfl, hu, hb⟩; have G3 := Lib.hid ((G2.out.call hb).nat hu G2.out.below.size); obtain ⟨E3, d3, rfl⟩ := hu.slice; clear hu hb G2) | (go_at_call 31; (refine (X31b.out _ _ _ G3.out.nats.2.1.isNat G3.out.nats.1.isNat).mono ?_); rintro e y4 ⟨v4, rfl, hu, hb⟩; have G4 := Lib.hid ((G3.out.call hb).nat hu G3.out.below.size); obtain ⟨E4, d4, rfl⟩ := hu.slice; clear hu hb G3))) | fail "no"
  go_wp2_with fail
  refine (X19d.out _).mono ?_
  rintro e z1 ⟨u1', rfl, hu, hb⟩
  have J1 := Lib.hid ((G5.out.call hb).nat hu G5.out.below.size)
  obtain ⟨F1, f1, rfl⟩ := hu.slice
  clear hu hb G5
  go_wp2_with fail
  refine (X30c.out _ _ _ J1.out.nats.1 J1.out.below.size).mono ?_
  rintro e z2 ⟨u2', v2', rfl, hu, hv, hb⟩
  have J2 := Lib.hid (((J1.out.call hb).nat hu (Nat.le_refl _)).nat hv (Nat.le_refl _))
  obtain ⟨F2, f2, rfl⟩ := hu.slice
  obtain ⟨F2', f2', rfl⟩ := hv.slice
  clear hu hv hb J1 X30c
  go_wp2_with fail
  refine (X19e.out _).mono ?_
  rintro e z3 ⟨u3', rfl, hu, hb⟩
  have J3 := Lib.hid ((J2.out.call hb).nat hu J2.out.below.size)
  obtain ⟨F3, f3, rfl⟩ := hu.slice
  clear hu hb J2 X19e
  go_wp2_with fail
  refine (X30d.out _ _ _ J3.out.nats.1 J3.out.below.size).mono ?_
  rintro e z4 ⟨u4', v4', rfl, hu, hv, hb⟩
  have J4 := Lib.hid (((J3.out.call hb).nat hu (Nat.le_refl _)).nat hv (Nat.le_refl _))
  obtain ⟨F4, f4, rfl⟩ := hu.slice
  obtain ⟨F4', f4', rfl⟩ := hv.slice
  clear hu hv hb J3 X30d
  go_wp2_with fail
  refine (X35.out _ _ _ _ _ J4.out.nats.2.2.2.2.1.isNat J4.out.nats.2.2.2.1.isNat J4.out.nats.2.1.isNat J4.out.nats.1.isNat).mono ?_
  rintro e z5 ⟨u5', v5', rfl, hu, hv, hb⟩
  have J5 := Lib.hid ((((J4.out.call hb).nat hu J4.out.below.size).nat hv J4.out.below.size).box3 (.bool sgs) u5' v5' 45)
  obtain ⟨F5, f5, rfl⟩ := hu.slice
  obtain ⟨F5', f5', rfl⟩ := hv.slice
  clear hu hv hb J4 X35
  go_wp2_with fail
  obtain ⟨bf, hbf⟩ : ∃ b, z5.heap.size = b := ⟨_, rfl⟩
  rw [hbf] at J5 ⊢
  clear hbf
  have JD := Lib.hid J5.out.drew
  clear J5
  refine wp_region_held_drew (S := fun W' => W'.cell? ⟨bf, 0, none⟩ = some (.bool sgs)) (by kernel_rfl) ?s1 (fun hHeld => ?q)
  case s1 => exact JD.out.cells.1
  case q =>
    refine wpAnyH_take (i := 0) (v := ?va0) rfl (by decide +kernel) (by decide +kernel) (by decide +kernel) (fun _ _ _ h => h) (Or.inl ⟨by rfl, ?ya0⟩) (by assumption) ?ra0
    case ya0 => (intro w0 hSw; (try dsimp only at hSw); (try obtain ⟨p0, p1, p2, p3⟩ := hSw); go_simp; (try with_reducible rfl))
    try simp only [List.getElem_toArray, List.getElem_cons_zero, List.getElem_cons_succ, Act.put, List.setIfInBounds_toArray, List.set_cons_zero, List.set_cons_succ]
    refine wpAnyH_take (i := 1) (v := ?va1) rfl (by decide +kernel) (by decide +kernel) (by decide +kernel) (fun _ _ _ h => h) (Or.inl ⟨by rfl, ?ya1⟩) (by assumption) ?ra1
    case ya1 => (intro w0 hSw; (try dsimp only at hSw); (try obtain ⟨p0, p1, p2, p3⟩ := hSw); go_simp; (try with_reducible rfl))
    try simp only [List.getElem_toArray, List.getElem_cons_zero, List.getElem_cons_succ, Act.put, List.setIfInBounds_toArray, List.set_cons_zero, List.set_cons_succ]
    refine wpAnyH_take (i := 2) (v := ?va2) rfl (by decide +kernel) (by decide +kernel) (by decide +kernel) (fun _ _ _ h => h) (Or.inl ⟨by rfl, ?ya2⟩) (by assumption) ?ra2
    case ya2 => (intro w0 hSw; (try dsimp only at hSw); (try obtain ⟨p0, p1, p2, p3⟩ := hSw); go_simp; (try with_reducible rfl))
    try simp only [List.getElem_toArray, List.getElem_cons_zero, List.getElem_cons_succ, Act.put, List.setIfInBounds_toArray, List.set_cons_zero, List.set_cons_succ]
    refine wpAnyH_take (i := 3) (v := undef) rfl (by decide +kernel) (by decide +kernel) (by decide +kernel) (fun _ _ _ h => h) (Or.inr ⟨by rfl, rfl⟩) (by assumption) ?ra3
    try simp only [List.getElem_toArray, List.getElem_cons_zero, List.getElem_cons_succ, Act.put, List.setIfInBounds_toArray, List.set_cons_zero, List.set_cons_succ]
    refine wpAnyH_take (i := 4) (v := undef) rfl (by decide +kernel) (by decide +kernel) (by decide +kernel) (fun _ _ _ h => h) (Or.inr ⟨by rfl, rfl⟩) (by assumption) ?ra4
    try simp only [List.getElem_toArray, List.getElem_cons_zero, List.getElem_cons_succ, Act.put, List.setIfInBounds_toArray, List.set_cons_zero, List.set_cons_succ]
    refine wpAnyH_take (i := 5) (v := undef) rfl (by decide +kernel) (by decide +kernel) (by decide +kernel) (fun _ _ _ h => h) (Or.inr ⟨by rfl, rfl⟩) (by assumption) ?ra5
    try simp only [List.getElem_toArray, List.getElem_cons_zero, List.getElem_cons_succ, Act.put, List.setIfInBounds_toArray, List.set_cons_zero, List.set_cons_succ]
    refine wpAnyH_take (i := 6) (v := undef) rfl (by decide +kernel) (by decide +kernel) (by decide +kernel) (fun _ _ _ h => h) (Or.inr ⟨by rfl, rfl⟩) (by assumption) ?ra6
    try simp only [List.getElem_toArray, List.getElem_cons_zero, List.getElem_cons_succ, Act.put, List.setIfInBounds_toArray, List.set_cons_zero, List.set_cons_succ]
    refine wpAnyH_take (i := 7) (v := undef) rfl (by decide +kernel) (by decide +kernel) (by decide +kernel) (fun _ _ _ h => h) (Or.inr ⟨by rfl, rfl⟩) (by assumption) ?ra7
    try simp only [List.getElem_toArray, List.getElem_cons_zero, List.getElem_cons_succ, Act.put, List.setIfInBounds_toArray, List.set_cons_zero, List.set_cons_succ]
    refine wpAnyH_take (i := 8) (v := undef) rfl (by decide +kernel) (by decide +kernel) (by decide +kernel) (fun _ _ _ h => h) (Or.inr ⟨by rfl, rfl⟩) (by assumption) ?ra8
    try simp only [List.getElem_toArray, List.getElem_cons_zero, List.getElem_cons_succ, Act.put, List.setIfInBounds_toArray, List.set_cons_zero, List.set_cons_succ]
    refine wpAnyH_take (i := 9) (v := undef) rfl (by decide +kernel) (by decide +kernel) (by decide +kernel) (fun _ _ _ h => h) (Or.inr ⟨by rfl, rfl⟩) (by assumption) ?ra9
    try simp only [List.getElem_toArray, List.getElem_cons_zero, List.getElem_cons_succ, Act.put, List.setIfInBounds_toArray, List.set_cons_zero, List.set_cons_succ]
    refine wpAnyH_take (i := 10) (v := undef) rfl (by decide +kernel) (by decide +kernel) (by decide +kernel) (fun _ _ _ h => h) (Or.inr ⟨by rfl, rfl⟩) (by assumption) ?ra10
    try simp only [List.getElem_toArray, List.getElem_cons_zero, List.getElem_cons_succ, Act.put, List.setIfInBounds_toArray, List.set_cons_zero, List.set_cons_succ]
    refine wpAnyH_take (i := 11) (v := undef) rfl (by decide +kernel) (by decide +kernel) (by decide +kernel) (fun _ _ _ h => h) (Or.inr ⟨by rfl, rfl⟩) (by assumption) ?ra11
    try simp only [List.getElem_toArray, List.getElem_cons_zero, List.getElem_cons_succ, Act.put, List.setIfInBounds_toArray, List.set_cons_zero, List.set_cons_succ]
    refine wpAnyH_take (i := 12) (v := undef) rfl (by decide +kernel) (by decide +kernel) (by decide +kernel) (fun _ _ _ h => h) (Or.inr ⟨by rfl, rfl⟩) (by assumption) ?ra12
    try simp only [List.getElem_toArray, List.getElem_cons_zero, List.getElem_cons_succ, Act.put, List.setIfInBounds_toArray, List.set_cons_zero, List.set_cons_succ]
    refine wpAnyH_take (i := 13) (v := undef) rfl (by decide +kernel) (by decide +kernel) (by decide +kernel) (fun _ _ _ h => h) (Or.inr ⟨by rfl, rfl⟩) (by assumption) ?ra13
    try simp only [List.getElem_toArray, List.getElem_cons_zero, List.getElem_cons_succ, Act.put, List.setIfInBounds_toArray, List.set_cons_zero, List.set_cons_succ]
    refine wpAnyH_take (i := 14) (v := undef) rfl (by decide +kernel) (by decide +kernel) (by decide +kernel) (fun _ _ _ h => h) (Or.inr ⟨by rfl, rfl⟩) (by assumption) ?ra14
    try simp only [List.getElem_toArray, List.getElem_cons_zero, List.getElem_cons_succ, Act.put, List.setIfInBounds_toArray, List.set_cons_zero, List.set_cons_succ]
    refine wpAnyH_take (i := 15) (v := undef) rfl (by decide +kernel) (by decide +kernel) (by decide +kernel) (fun _ _ _ h => h) (Or.inr ⟨by rfl, rfl⟩) (by assumption) ?ra15
    try simp only [List.getElem_toArray, List.getElem_cons_zero, List.getElem_cons_succ, Act.put, List.setIfInBounds_toArray, List.set_cons_zero, List.set_cons_succ]
    refine wpAnyH_take (i := 16) (v := ?va16) rfl (by decide +kernel) (by decide +kernel) (by decide +kernel) (fun _ _ _ h => h) (Or.inl ⟨by rfl, ?ya16⟩) (by assumption) ?ra16
    case ya16 => (intro w0 hSw; (try dsimp only at hSw); (try obtain ⟨p0, p1, p2, p3⟩ := hSw); go_simp; (try with_reducible rfl))
    try simp only [List.getElem_toArray, List.getElem_cons_zero, List.getElem_cons_succ, Act.put, List.setIfInBounds_toArray, List.set_cons_zero, List.set_cons_succ]
    refine wpAnyH_take (i := 17) (v := ?va17) rfl (by decide +kernel) (by decide +kernel) (by decide +kernel) (fun _ _ _ h => h) (Or.inl ⟨by rfl, ?ya17⟩) (by assumption) ?ra17
    case ya17 => (intro w0 hSw; (try dsimp only at hSw); (try obtain ⟨p0, p1, p2, p3⟩ := hSw); go_simp; (try with_reducible rfl))
    try simp only [List.getElem_toArray, List.getElem_cons_zero, List.getElem_cons_succ, Act.put, List.setIfInBounds_toArray, List.set_cons_zero, List.set_cons_succ]
    refine wpAnyH_done (by kernel_rfl) ?_ _
    go_wp2
    go_ret
    exact ⟨rfl, JD.out.below⟩

set_option maxHeartbeats 16000000 in
set_option maxRecDepth 100000 in
theorem ints_high (neg : Bool) (n s t m q : Nat) (a c M N : Int) (w : World) (hs : s ≤ 19) (ht : t ≤ 18) (hn : n ≤ 9999999999999999999) (hm : rq 5 (neg && decide (0 < n)) (n * 10 ^ t) (10 ^ s) = m) (hml : m < 1000000000 ^ 5) (hq : m / 10 ^ t = q)
    (hM : (4611686018427387904 : Int) + 4611686018427387903 = M) (hN : -M + -1 = N) (ha : -9223372036854775808 ≤ a ∧ a ≤ 9223372036854775807) (hcc : -9223372036854775808 ≤ c ∧ c ≤ 9223372036854775807)
    (h32 : ∀ W, Below w.heap.size w W → Calls Tryd.prog 32 #[.agg #[.bool neg, .int .u64 n, .int .i64 s], .int .i64 t] W fun e w' => e = .returned (.tuple #[.int .i64 a, .int .i64 c, .bool false, .int .i64 0]) ∧ Below W.heap.size W w')
    (hc1 : decide (icmp (fz (neg && decide (0 < n)) q) M ≤ 0) = false) (hc2 : decide (0 ≤ icmp (fz (neg && decide (0 < n)) q) N) = true) :
    Calls Tryd.prog 7 #[.agg #[.bool neg, .int .u64 n, .int .i64 s], .int .i64 t] w fun e w' => e = .returned (.bool true) ∧ Below w.heap.size w w' := by
  have hl3 := limbs_length 3 n (by omega)
  have hp3 := limbs_length 3 (10 ^ s) (Nat.lt_of_le_of_lt (Nat.pow_le_pow_right (by decide) hs) (by decide))
  have hp3t := limbs_length 3 (10 ^ t) (Nat.lt_of_le_of_lt (Nat.pow_le_pow_right (by decide) (show t ≤ 19 by omega)) (by decide))
  have hm5 := limbs_length 5 m hml
  have hqm : q ≤ m := by rw [← hq]; exact Nat.div_le_self _ _
  have hq5 := LongDiv.len_mono hqm
  have hM3 := limbs_length 3 M.natAbs (by omega)
  have hN3 := limbs_length 3 N.natAbs (by omega)
  have ha3 := limbs_length 3 a.natAbs (by omega)
  have hc3 := limbs_length 3 c.natAbs (by omega)
  have X29 := Lib.hid (fun W => ofFix_ok neg n s W (by omega) hn (by omega) (by omega))
  rw [show IntKind.i64.wrap (-(s : Int)) = -(s : Int) from IntWalk.i64_in _ (by omega)] at X29
  have X30a := Lib.hid (fun u b0 W (h1 : IsNew W b0 u n) h2 => decFrac_any (fz neg n) s b0 u W (by rw [fz_abs]; exact h1) h2 (by omega) (by rw [fz_abs]; omega))
  rw [fz_neg, fz_abs] at X30a
  have X26a := Lib.hid (fun u v W h1 h2 => round_any (neg && decide (0 < n)) n (10 ^ s) t 5 u v W h1 h2 (Nat.pow_pos (by decide)) (by omega) (by omega) (by omega))
  rw [hm] at X26a
  have X30b := Lib.hid (fun u b0 W (h1 : IsNew W b0 u m) h2 => decFrac_any (fz (neg && decide (0 < n)) m) t b0 u W (by rw [fz_abs]; exact h1) h2 (by omega) (by rw [fz_abs]; omega))
  rw [fz_neg, fz_abs] at X30b
  have X26b := Lib.hid (fun u v W h1 h2 => round_any (neg && decide (0 < n) && decide (0 < m)) m (10 ^ t) 0 0 u v W h1 h2 (Nat.pow_pos (by decide)) (by omega) (by omega) (by omega))
  rw [Nat.pow_zero, Nat.mul_one, rq_cut, hq, show (neg && decide (0 < n) && decide (0 < m) && decide (0 < q)) = (neg && decide (0 < n) && decide (0 < q)) by
    by_cases h : 0 < q
    · rw [decide_eq_true h, decide_eq_true (show 0 < m by omega)]; simp
    · rw [decide_eq_false h]; simp, show -(((0 : Nat)) : Int) = 0 from rfl, show ((0 : Nat) : Int) = 0 from rfl] at X26b
  have X19a := Lib.hid (fun W => FixLike.wholeOf_any 4611686018427387904 W (by omega) (by omega))
  have X19b := Lib.hid (fun W => FixLike.wholeOf_any 4611686018427387903 W (by omega) (by omega))
  have X31a := Lib.hid (fun u v W h1 h2 => wholeAdd_int 4611686018427387904 4611686018427387903 u v W h1 h2 (by have := limbs_length 3 (4611686018427387904 : Int).natAbs (by decide); omega) (by have := limbs_length 3 (4611686018427387903 : Int).natAbs (by decide); omega))
  rw [hM] at X31a
  have X32 := Lib.hid h32
  have X33a := Lib.hid (fun u v W (h1 : IsNat W u q) h2 => wholeCmp_any (fz (neg && decide (0 < n)) q) M u v W (by rw [fz_abs]; exact h1) h2 (by rw [fz_abs]; omega) (by omega))
  have X34 := Lib.hid (fun u W h1 => wholeMinus_int M u W h1)
  have X19c := Lib.hid (fun W => FixLike.wholeOf_any (-1) W (by omega) (by omega))
  have X31b := Lib.hid (fun u v W (h1 : IsNat W u M.natAbs) h2 => wholeAdd_int (-M) (-1) u v W (by rw [Int.natAbs_neg]; exact h1) h2 (by rw [Int.natAbs_neg]; omega) (by have := limbs_length 1 (-1 : Int).natAbs (by decide); omega))
  rw [hN] at X31b
  have X33b := Lib.hid (fun u v W (h1 : IsNat W u q) h2 => wholeCmp_any (fz (neg && decide (0 < n)) q) N u v W (by rw [fz_abs]; exact h1) h2 (by rw [fz_abs]; omega) (by omega))
  have X19d := Lib.hid (fun W => FixLike.wholeOf_any a W ha.1 ha.2)
  have X30c := Lib.hid (fun u b0 W h1 h2 => decFrac_any a 0 b0 u W h1 h2 (by omega) (by omega))
  rw [show -(((0 : Nat)) : Int) = 0 from rfl, show (10 : Nat) ^ 0 = 1 from rfl] at X30c
  have X19e := Lib.hid (fun W => FixLike.wholeOf_any c W hcc.1 hcc.2)
  have X30d := Lib.hid (fun u b0 W h1 h2 => decFrac_any c t b0 u W h1 h2 (by omega) (by omega))
  have X35 := Lib.hid (fun u v u' v' W h1 h2 h3 h4 => fracAdd_any a c 1 (10 ^ t) u v u' v' W h1 h2 h3 h4 (by omega) (by rw [limbs_one 1 (by omega) (by omega)]; simp) (by omega) (by omega))
  rw [fz_neg] at X33a X33b
  rw [show decide ((4611686018427387904 : Int) < 0) = false from rfl] at X19a X31a
  rw [show decide ((4611686018427387903 : Int) < 0) = false from rfl] at X19b X31a
  rw [show decide ((-1 : Int) < 0) = true from rfl] at X19c X31b
  rw [show decide (M < 0) = false from decide_eq_false (by omega)] at X31a X33a X34
  rw [show decide (-M < 0) = true from decide_eq_true (by omega)] at X34 X31b
  rw [show decide (N < 0) = true from decide_eq_true (by omega)] at X31b X33b
  generalize (4611686018427387904 : Int).natAbs = KA at X19a X31a
  generalize (4611686018427387903 : Int).natAbs = KB at X19b X31a
  generalize (-1 : Int).natAbs = KC at X19c X31b
  generalize M.natAbs = KM at X31a X33a X34 X31b
  generalize N.natAbs = KN at X31b X33b
  generalize icmp (fz (neg && decide (0 < n)) q) M = i1 at X33a hc1
  generalize icmp (fz (neg && decide (0 < n)) q) N = i2 at X33b hc2
  generalize hsgm : (neg && decide (0 < n) && decide (0 < m)) = sgm at *
  generalize hsgq : (neg && decide (0 < n) && decide (0 < q)) = sgq at *
  generalize hsg : (neg && decide (0 < n)) = sg at *
  generalize decide (a * ((10 ^ t : Nat) : Int) + c * ((1 : Nat) : Int) < 0) = sgs at X35
  generalize (a * ((10 ^ t : Nat) : Int) + c * ((1 : Nat) : Int)).natAbs = KS at X35
  generalize decide (a < 0) = sga at X19d X30c X35
  generalize a.natAbs = qa at X19d X30c X35
  generalize 1 * 10 ^ t = ten at X35
  generalize decide (c < 0) = sgc at X19e X30d X35
  generalize c.natAbs = rc at X19e X30d X35
  have HB0 : Hid (Hold w (w.alloc (.cells #[.bool neg, .int .u64 n, .int .i64 s] 32)) [(w.heap.size, 0, .bool neg), (w.heap.size, 1, .int .u64 n), (w.heap.size, 2, .int .i64 s)] []) := Lib.hid ⟨Cells.box3 (Cells.nil _) rfl _ _ _ _, trivial, (Below.refl _ _).alloc (Nat.le_refl _) _⟩
  have htm : t ≤ 18 := ht
  have htw : IntKind.i64.wrap (-(t : Int)) = -(t : Int) := IntWalk.i64_in _ (by omega)
  clear hs ht hn hm hml hq hM hN ha hcc h32 hl3 hp3 hp3t hm5 hqm hq5 hM3 hN3 ha3 hc3 hsgm hsgq hsg
  go_enter Tryd.func7, Tryd.ntmps7
  go_wp2_with fail
  refine (X29.out _).mono ?_
  rintro e w1 ⟨u1, rfl, hn1, hb⟩
  have H1 := Lib.hid (((HB0.out.call hb).nat hn1 HB0.out.below.size).box3 (.bool sg) u1 (.int .i64 (-(s : Int))) 40)
  obtain ⟨A1, c1, rfl⟩ := hn1.slice
  clear hn1 hb HB0 X29
  go_wp2_with fail
  refine (X30a.out _ _ _ H1.out.nats.1 H1.out.below.size).mono ?_
  rintro e w2 ⟨u2, v2, rfl, hu, hv, hb⟩
  have H2 := Lib.hid (((H1.out.call hb).nat hu (Nat.le_refl _)).nat hv (Nat.le_refl _))
  obtain ⟨A2, c2, rfl⟩ := hu.slice
  obtain ⟨B2, b2, rfl⟩ := hv.slice
  clear hu hv hb H1 X30a
  go_wp2_with fail
  refine (X26a.out _ _ _ H2.out.nats.2.1.isNat H2.out.nats.1.isNat).mono ?_
  rintro e w3 ⟨u3, rfl, hu, hb⟩
  have H3 := Lib.hid (((H2.out.call hb).nat hu H2.out.below.size).box3 (.bool sgm) u3 (.int .i64 (-(t : Int))) 40)
  obtain ⟨A3, c3, rfl⟩ := hu.slice
  clear hu hb H2 X26a
  go_wp2_with fail
  refine (X30b.out _ _ _ H3.out.nats.1 H3.out.below.size).mono ?_
  rintro e w4 ⟨u4, v4, rfl, hu, hv, hb⟩
  have H4 := Lib.hid (((H3.out.call hb).nat hu (Nat.le_refl _)).nat hv (Nat.le_refl _))
  obtain ⟨A4, c4, rfl⟩ := hu.slice
  obtain ⟨B4, b4, rfl⟩ := hv.slice
  clear hu hv hb H3
  go_wp2_with fail
  refine (X26b.out _ _ _ H4.out.nats.2.1.isNat H4.out.nats.1.isNat).mono ?_
  rintro e w5 ⟨u5, rfl, hu, hb⟩
  have H5 := Lib.hid (((H4.out.call hb).nat hu H4.out.below.size).box3 (.bool sgq) u5 (.int .i64 0) 40)
  obtain ⟨A5, c5, rfl⟩ := hu.slice
  clear hu hb H4 X26b
  go_wp2_with fail
  refine (X19a.out _).mono ?_
  rintro e w6 ⟨u6, rfl, hu, hb⟩
  have H6 := Lib.hid ((H5.out.call hb).nat hu H5.out.below.size)
  obtain ⟨A6, c6, rfl⟩ := hu.slice
  clear hu hb H5 X19a
  go_wp2_with fail
  refine (X19b.out _).mono ?_
  rintro e w7 ⟨u7, rfl, hu, hb⟩
  have H7 := Lib.hid ((H6.out.call hb).nat hu H6.out.below.size)
  obtain ⟨A7, c7, rfl⟩ := hu.slice
  clear hu hb H6 X19b
  go_wp2_with fail
  refine (X31a.out _ _ _ H7.out.nats.2.1.isNat H7.out.nats.1.isNat).mono ?_
  rintro e w8 ⟨u8, rfl, hu, hb⟩
  have H8 := Lib.hid (((H7.out.call hb).nat hu H7.out.below.size).box2 (.bool false) u8 37)
  obtain ⟨A8, c8, rfl⟩ := hu.slice
  clear hu hb H7 X31a
  obtain ⟨-, -, -, -, -, -, -, -, -, -, -, a0, a1, a2, -⟩ := H8.out.cells
  go_wp2_with fail
  refine (X32.out _ H8.out.below).mono ?_
  rintro e w9 ⟨rfl, hb⟩
  have H9 := Lib.hid (H8.out.call hb)
  clear hb H8 X32 a0 a1 a2
  go_wp2_with fail
  obtain ⟨bx, hbx⟩ : ∃ b, w1.heap.size = b := ⟨_, rfl⟩
  obtain ⟨bw, hbw⟩ : ∃ b, w3.heap.size = b := ⟨_, rfl⟩
  obtain ⟨bh, hbh⟩ : ∃ b, w5.heap.size = b := ⟨_, rfl⟩
  obtain ⟨bm, hbm⟩ : ∃ b, w8.heap.size = b := ⟨_, rfl⟩
  rw [hbx, hbw, hbh, hbm] at H9 ⊢
  clear hbx hbw hbh hbm
  have HD := Lib.hid H9.out.drew
  clear H9
  refine wp_region_held_drew (S := (fun W' => W'.cell? ⟨bm, 0, none⟩ = some (.bool false) ∧ W'.cell? ⟨bm, 1, none⟩ = some (.slice A8 (limbs KM).length c8) ∧ W'.cell? ⟨bh, 0, none⟩ = some (.bool sgq) ∧ W'.cell? ⟨bh, 1, none⟩ = some (.slice A5 (limbs q).length c5))) (by kernel_rfl) ?s0 (fun hHeld => ?r)
  case s0 => exact ⟨HD.out.cells.1, HD.out.cells.2.1, HD.out.cells.2.2.1, HD.out.cells.2.2.2.1⟩
  case r =>
    refine wpAnyH_take (i := 0) (v := ?vb0) rfl (by decide +kernel) (by decide +kernel) (by decide +kernel) (fun _ _ _ h => h) (Or.inl ⟨by rfl, ?yb0⟩) (by assumption) ?rb0
    case yb0 => (intro w0 hSw; (try dsimp only at hSw); (try obtain ⟨p0, p1, p2, p3⟩ := hSw); go_simp; (try with_reducible rfl))
    try simp only [List.getElem_toArray, List.getElem_cons_zero, List.getElem_cons_succ, Act.put, List.setIfInBounds_toArray, List.set_cons_zero, List.set_cons_succ]
    refine wpAnyH_take (i := 1) (v := ?vb1) rfl (by decide +kernel) (by decide +kernel) (by decide +kernel) (fun _ _ _ h => h) (Or.inl ⟨by rfl, ?yb1⟩) (by assumption) ?rb1
    case yb1 => (intro w0 hSw; (try dsimp only at hSw); (try obtain ⟨p0, p1, p2, p3⟩ := hSw); go_simp; (try with_reducible rfl))
    try simp only [List.getElem_toArray, List.getElem_cons_zero, List.getElem_cons_succ, Act.put, List.setIfInBounds_toArray, List.set_cons_zero, List.set_cons_succ]
    refine wpAnyH_take (i := 2) (v := ?vb2) rfl (by decide +kernel) (by decide +kernel) (by decide +kernel) (fun _ _ _ h => h) (Or.inl ⟨by rfl, ?yb2⟩) (by assumption) ?rb2
    case yb2 => (intro w0 hSw; (try dsimp only at hSw); (try obtain ⟨p0, p1, p2, p3⟩ := hSw); go_simp; (try with_reducible rfl))
    try simp only [List.getElem_toArray, List.getElem_cons_zero, List.getElem_cons_succ, Act.put, List.setIfInBounds_toArray, List.set_cons_zero, List.set_cons_succ]
    refine wpAnyH_take (i := 3) (v := ?vb3) rfl (by decide +kernel) (by decide +kernel) (by decide +kernel) (fun _ _ _ h => h) (Or.inl ⟨by rfl, ?yb3⟩) (by assumption) ?rb3
    case yb3 => (intro w0 hSw; (try dsimp only at hSw); (try obtain ⟨p0, p1, p2, p3⟩ := hSw); go_simp; (try with_reducible rfl))
    try simp only [List.getElem_toArray, List.getElem_cons_zero, List.getElem_cons_succ, Act.put, List.setIfInBounds_toArray, List.set_cons_zero, List.set_cons_succ]
    refine wpAnyH_take (i := 4) (v := ?vb4) rfl (by decide +kernel) (by decide +kernel) (by decide +kernel) (fun _ _ _ h => h) (Or.inl ⟨by rfl, ?yb4⟩) (by assumption) ?rb4
    case yb4 => (intro w0 hSw; (try dsimp only at hSw); (try obtain ⟨p0, p1, p2, p3⟩ := hSw); go_simp; (try with_reducible rfl))
    try simp only [List.getElem_toArray, List.getElem_cons_zero, List.getElem_cons_succ, Act.put, List.setIfInBounds_toArray, List.set_cons_zero, List.set_cons_succ]
    refine wpAnyH_take (i := 5) (v := ?vb5) rfl (by decide +kernel) (by decide +kernel) (by decide +kernel) (fun _ _ _ h => h) (Or.inl ⟨by rfl, ?yb5⟩) (by assumption) ?rb5
    case yb5 => (intro w0 hSw; (try dsimp only at hSw); (try obtain ⟨p0, p1, p2, p3⟩ := hSw); go_simp; (try with_reducible rfl))
    try simp only [List.getElem_toArray, List.getElem_cons_zero, List.getElem_cons_succ, Act.put, List.setIfInBounds_toArray, List.set_cons_zero, List.set_cons_succ]
    refine wpAnyH_take (i := 6) (v := ?vb6) rfl (by decide +kernel) (by decide +kernel) (by decide +kernel) (fun _ _ _ h => h) (Or.inl ⟨by rfl, ?yb6⟩) (by assumption) ?rb6
    case yb6 => (intro w0 hSw; (try dsimp only at hSw); (try obtain ⟨p0, p1, p2, p3⟩ := hSw); go_simp; (try with_reducible rfl))
    try simp only [List.getElem_toArray, List.getElem_cons_zero, List.getElem_cons_succ, Act.put, List.setIfInBounds_toArray, List.set_cons_zero, List.set_cons_succ]
    refine wpAnyH_ready (rs := [7]) (by decide +kernel) (by simp) ?_
    refine AllReadyH.cons rfl (fun K hK => ?_) AllReadyH.nil
    go_simp
    (refine (X33a.out _ _ _ HD.out.nats.2.2.2.1.isNat HD.out.nats.1.isNat).mono ?_)
    rintro e y1 ⟨rfl, hb⟩
    have G5 := Lib.hid (HD.out.call hb)
    clear hb HD
    go_wp2_with fail
    refine hK.out _ _ ⟨G5.out.cells.1, G5.out.cells.2.1, G5.out.cells.2.2.1, G5.out.cells.2.2.2.1⟩ (fun hHeld => ?_)
    clear hK K
    try simp only [List.getElem_toArray, List.getElem_cons_zero, List.getElem_cons_succ, Act.put, List.setIfInBounds_toArray, List.set_cons_zero, List.set_cons_succ]
    refine wpAnyH_take (i := 8) (v := ?vb8) rfl (by decide +kernel) (by decide +kernel) (by decide +kernel) (fun _ _ _ h => h) (Or.inl ⟨by rfl, ?yb8⟩) (by assumption) ?rb8
    case yb8 => (intro w0 hSw; (try dsimp only at hSw); (try obtain ⟨p0, p1, p2, p3⟩ := hSw); go_simp; (try with_reducible rfl))
    try simp only [List.getElem_toArray, List.getElem_cons_zero, List.getElem_cons_succ, Act.put, List.setIfInBounds_toArray, List.set_cons_zero, List.set_cons_succ]
    refine wpAnyH_take (i := 9) (v := ?vb9) rfl (by decide +kernel) (by decide +kernel) (by decide +kernel) (fun _ _ _ h => h) (Or.inl ⟨by rfl, ?yb9⟩) (by assumption) ?rb9
    case yb9 => (intro w0 hSw; (try dsimp only at hSw); (try obtain ⟨p0, p1, p2, p3⟩ := hSw); go_simp; (try with_reducible rfl))
    try simp only [List.getElem_toArray, List.getElem_cons_zero, List.getElem_cons_succ, Act.put, List.setIfInBounds_toArray, List.set_cons_zero, List.set_cons_succ]
    try rw [hc1]
    refine wpAnyH_take (i := 10) (v := undef) rfl (by decide +kernel) (by decide +kernel) (by decide +kernel) (fun _ _ _ h => h) (Or.inr ⟨by rfl, rfl⟩) (by assumption) ?rb10
    try simp only [List.getElem_toArray, List.getElem_cons_zero, List.getElem_cons_succ, Act.put, List.setIfInBounds_toArray, List.set_cons_zero, List.set_cons_succ]
    refine wpAnyH_take (i := 11) (v := undef) rfl (by decide +kernel) (by decide +kernel) (by decide +kernel) (fun _ _ _ h => h) (Or.inr ⟨by rfl, rfl⟩) (by assumption) ?rb11
    try simp only [List.getElem_toArray, List.getElem_cons_zero, List.getElem_cons_succ, Act.put, List.setIfInBounds_toArray, List.set_cons_zero, List.set_cons_succ]
    refine wpAnyH_take (i := 12) (v := undef) rfl (by decide +kernel) (by decide +kernel) (by decide +kernel) (fun _ _ _ h => h) (Or.inr ⟨by rfl, rfl⟩) (by assumption) ?rb12
    try simp only [List.getElem_toArray, List.getElem_cons_zero, List.getElem_cons_succ, Act.put, List.setIfInBounds_toArray, List.set_cons_zero, List.set_cons_succ]
    refine wpAnyH_take (i := 13) (v := undef) rfl (by decide +kernel) (by decide +kernel) (by decide +kernel) (fun _ _ _ h => h) (Or.inr ⟨by rfl, rfl⟩) (by assumption) ?rb13
    try simp only [List.getElem_toArray, List.getElem_cons_zero, List.getElem_cons_succ, Act.put, List.setIfInBounds_toArray, List.set_cons_zero, List.set_cons_succ]
    refine wpAnyH_take (i := 14) (v := undef) rfl (by decide +kernel) (by decide +kernel) (by decide +kernel) (fun _ _ _ h => h) (Or.inr ⟨by rfl, rfl⟩) (by assumption) ?rb14
    try simp only [List.getElem_toArray, List.getElem_cons_zero, List.getElem_cons_succ, Act.put, List.setIfInBounds_toArray, List.set_cons_zero, List.set_cons_succ]
    refine wpAnyH_take (i := 15) (v := undef) rfl (by decide +kernel) (by decide +kernel) (by decide +kernel) (fun _ _ _ h => h) (Or.inr ⟨by rfl, rfl⟩) (by assumption) ?rb15
    try simp only [List.getElem_toArray, List.getElem_cons_zero, List.getElem_cons_succ, Act.put, List.setIfInBounds_toArray, List.set_cons_zero, List.set_cons_succ]
    refine wpAnyH_take (i := 16) (v := undef) rfl (by decide +kernel) (by decide +kernel) (by decide +kernel) (fun _ _ _ h => h) (Or.inr ⟨by rfl, rfl⟩) (by assumption) ?rb16
    try simp only [List.getElem_toArray, List.getElem_cons_zero, List.getElem_cons_succ, Act.put, List.setIfInBounds_toArray, List.set_cons_zero, List.set_cons_succ]
    refine wpAnyH_take (i := 17) (v := undef) rfl (by decide +kernel) (by decide +kernel) (by decide +kernel) (fun _ _ _ h => h) (Or.inr ⟨by rfl, rfl⟩) (by assumption) ?rb17
    try simp only [List.getElem_toArray, List.getElem_cons_zero, List.getElem_cons_succ, Act.put, List.setIfInBounds_toArray, List.set_cons_zero, List.set_cons_succ]
    refine wpAnyH_take (i := 18) (v := ?vb18) rfl (by decide +kernel) (by decide +kernel) (by decide +kernel) (fun _ _ _ h => h) (Or.inl ⟨by rfl, ?yb18⟩) (by assumption) ?rb18
    case yb18 => (intro w0 hSw; (try dsimp only at hSw); (try obtain ⟨p0, p1, p2, p3⟩ := hSw); go_simp; (try with_reducible rfl))
    try simp only [List.getElem_toArray, List.getElem_cons_zero, List.getElem_cons_succ, Act.put, List.setIfInBounds_toArray, List.set_cons_zero, List.set_cons_succ]
    refine wpAnyH_take (i := 19) (v := ?vb19) rfl (by decide +kernel) (by decide +kernel) (by decide +kernel) (fun _ _ _ h => h) (Or.inl ⟨by rfl, ?yb19⟩) (by assumption) ?rb19
    case yb19 => (intro w0 hSw; (try dsimp only at hSw); (try obtain ⟨p0, p1, p2, p3⟩ := hSw); go_simp; (try with_reducible rfl))
    try simp only [List.getElem_toArray, List.getElem_cons_zero, List.getElem_cons_succ, Act.put, List.setIfInBounds_toArray, List.set_cons_zero, List.set_cons_succ]
    refine wpAnyH_take (i := 20) (v := ?vb20) rfl (by decide +kernel) (by decide +kernel) (by decide +kernel) (fun _ _ _ h => h) (Or.inl ⟨by rfl, ?yb20⟩) (by assumption) ?rb20
    case yb20 => (intro w0 hSw; (try dsimp only at hSw); (try obtain ⟨p0, p1, p2, p3⟩ := hSw); go_simp; (try with_reducible rfl))
    try simp only [List.getElem_toArray, List.getElem_cons_zero, List.getElem_cons_succ, Act.put, List.setIfInBounds_toArray, List.set_cons_zero, List.set_cons_succ]
    refine wpAnyH_done (by kernel_rfl) ?_ _
    go_wp2_with fail
    refine (X19d.out _).mono ?_
    rintro e z1 ⟨u1', rfl, hu, hb⟩
    have J1 := Lib.hid ((G5.out.call hb).nat hu G5.out.below.size)
    obtain ⟨F1, f1, rfl⟩ := hu.slice
    clear hu hb G5
    go_wp2_with fail
    refine (X30c.out _ _ _ J1.out.nats.1 J1.out.below.size).mono ?_
    rintro e z2 ⟨u2', v2', rfl, hu, hv, hb⟩
    have J2 := Lib.hid (((J1.out.call hb).nat hu (Nat.le_refl _)).nat hv (Nat.le_refl _))
    obtain ⟨F2, f2, rfl⟩ := hu.slice
    obtain ⟨F2', f2', rfl⟩ := hv.slice
    clear hu hv hb J1 X30c
    go_wp2_with fail
    refine (X19e.out _).mono ?_
    rintro e z3 ⟨u3', rfl, hu, hb⟩
    have J3 := Lib.hid ((J2.out.call hb).nat hu J2.out.below.size)
    obtain ⟨F3, f3, rfl⟩ := hu.slice
    clear hu hb J2 X19e
    go_wp2_with fail
    refine (X30d.out _ _ _ J3.out.nats.1 J3.out.below.size).mono ?_
    rintro e z4 ⟨u4', v4', rfl, hu, hv, hb⟩
    have J4 := Lib.hid (((J3.out.call hb).nat hu (Nat.le_refl _)).nat hv (Nat.le_refl _))
    obtain ⟨F4, f4, rfl⟩ := hu.slice
    obtain ⟨F4', f4', rfl⟩ := hv.slice
    clear hu hv hb J3 X30d
    go_wp2_with fail
    refine (X35.out _ _ _ _ _ J4.out.nats.2.2.2.2.1.isNat J4.out.nats.2.2.2.1.isNat J4.out.nats.2.1.isNat J4.out.nats.1.isNat).mono ?_
    rintro e z5 ⟨u5', v5', rfl, hu, hv, hb⟩
    have J5 := Lib.hid ((((J4.out.call hb).nat hu J4.out.below.size).nat hv J4.out.below.size).box3 (.bool sgs) u5' v5' 45)
    obtain ⟨F5, f5, rfl⟩ := hu.slice
    obtain ⟨F5', f5', rfl⟩ := hv.slice
    clear hu hv hb J4 X35
    go_wp2_with fail
    obtain ⟨bf, hbf⟩ : ∃ b, z5.heap.size = b := ⟨_, rfl⟩
    rw [hbf] at J5 ⊢
    clear hbf
    have JD := Lib.hid J5.out.drew
    clear J5
    refine wp_region_held_drew (S := fun W' => W'.cell? ⟨bf, 0, none⟩ = some (.bool sgs)) (by kernel_rfl) ?s1 (fun hHeld => ?q)
    case s1 => exact JD.out.cells.1
    case q =>
      refine wpAnyH_take (i := 0) (v := ?va0) rfl (by decide +kernel) (by decide +kernel) (by decide +kernel) (fun _ _ _ h => h) (Or.inl ⟨by rfl, ?ya0⟩) (by assumption) ?ra0
      case ya0 => (intro w0 hSw; (try dsimp only at hSw); (try obtain ⟨p0, p1, p2, p3⟩ := hSw); go_simp; (try with_reducible rfl))
      try simp only [List.getElem_toArray, List.getElem_cons_zero, List.getElem_cons_succ, Act.put, List.setIfInBounds_toArray, List.set_cons_zero, List.set_cons_succ]
      refine wpAnyH_take (i := 1) (v := ?va1) rfl (by decide +kernel) (by decide +kernel) (by decide +kernel) (fun _ _ _ h => h) (Or.inl ⟨by rfl, ?ya1⟩) (by assumption) ?ra1
      case ya1 => (intro w0 hSw; (try dsimp only at hSw); (try obtain ⟨p0, p1, p2, p3⟩ := hSw); go_simp; (try with_reducible rfl))
      try simp only [List.getElem_toArray, List.getElem_cons_zero, List.getElem_cons_succ, Act.put, List.setIfInBounds_toArray, List.set_cons_zero, List.set_cons_succ]
      refine wpAnyH_take (i := 2) (v := ?va2) rfl (by decide +kernel) (by decide +kernel) (by decide +kernel) (fun _ _ _ h => h) (Or.inl ⟨by rfl, ?ya2⟩) (by assumption) ?ra2
      case ya2 => (intro w0 hSw; (try dsimp only at hSw); (try obtain ⟨p0, p1, p2, p3⟩ := hSw); go_simp; (try with_reducible rfl))
      try simp only [List.getElem_toArray, List.getElem_cons_zero, List.getElem_cons_succ, Act.put, List.setIfInBounds_toArray, List.set_cons_zero, List.set_cons_succ]
      refine wpAnyH_take (i := 3) (v := undef) rfl (by decide +kernel) (by decide +kernel) (by decide +kernel) (fun _ _ _ h => h) (Or.inr ⟨by rfl, rfl⟩) (by assumption) ?ra3
      try simp only [List.getElem_toArray, List.getElem_cons_zero, List.getElem_cons_succ, Act.put, List.setIfInBounds_toArray, List.set_cons_zero, List.set_cons_succ]
      refine wpAnyH_take (i := 4) (v := undef) rfl (by decide +kernel) (by decide +kernel) (by decide +kernel) (fun _ _ _ h => h) (Or.inr ⟨by rfl, rfl⟩) (by assumption) ?ra4
      try simp only [List.getElem_toArray, List.getElem_cons_zero, List.getElem_cons_succ, Act.put, List.setIfInBounds_toArray, List.set_cons_zero, List.set_cons_succ]
      refine wpAnyH_take (i := 5) (v := undef) rfl (by decide +kernel) (by decide +kernel) (by decide +kernel) (fun _ _ _ h => h) (Or.inr ⟨by rfl, rfl⟩) (by assumption) ?ra5
      try simp only [List.getElem_toArray, List.getElem_cons_zero, List.getElem_cons_succ, Act.put, List.setIfInBounds_toArray, List.set_cons_zero, List.set_cons_succ]
      refine wpAnyH_take (i := 6) (v := undef) rfl (by decide +kernel) (by decide +kernel) (by decide +kernel) (fun _ _ _ h => h) (Or.inr ⟨by rfl, rfl⟩) (by assumption) ?ra6
      try simp only [List.getElem_toArray, List.getElem_cons_zero, List.getElem_cons_succ, Act.put, List.setIfInBounds_toArray, List.set_cons_zero, List.set_cons_succ]
      refine wpAnyH_take (i := 7) (v := undef) rfl (by decide +kernel) (by decide +kernel) (by decide +kernel) (fun _ _ _ h => h) (Or.inr ⟨by rfl, rfl⟩) (by assumption) ?ra7
      try simp only [List.getElem_toArray, List.getElem_cons_zero, List.getElem_cons_succ, Act.put, List.setIfInBounds_toArray, List.set_cons_zero, List.set_cons_succ]
      refine wpAnyH_take (i := 8) (v := undef) rfl (by decide +kernel) (by decide +kernel) (by decide +kernel) (fun _ _ _ h => h) (Or.inr ⟨by rfl, rfl⟩) (by assumption) ?ra8
      try simp only [List.getElem_toArray, List.getElem_cons_zero, List.getElem_cons_succ, Act.put, List.setIfInBounds_toArray, List.set_cons_zero, List.set_cons_succ]
      refine wpAnyH_take (i := 9) (v := undef) rfl (by decide +kernel) (by decide +kernel) (by decide +kernel) (fun _ _ _ h => h) (Or.inr ⟨by rfl, rfl⟩) (by assumption) ?ra9
      try simp only [List.getElem_toArray, List.getElem_cons_zero, List.getElem_cons_succ, Act.put, List.setIfInBounds_toArray, List.set_cons_zero, List.set_cons_succ]
      refine wpAnyH_take (i := 10) (v := undef) rfl (by decide +kernel) (by decide +kernel) (by decide +kernel) (fun _ _ _ h => h) (Or.inr ⟨by rfl, rfl⟩) (by assumption) ?ra10
      try simp only [List.getElem_toArray, List.getElem_cons_zero, List.getElem_cons_succ, Act.put, List.setIfInBounds_toArray, List.set_cons_zero, List.set_cons_succ]
      refine wpAnyH_take (i := 11) (v := undef) rfl (by decide +kernel) (by decide +kernel) (by decide +kernel) (fun _ _ _ h => h) (Or.inr ⟨by rfl, rfl⟩) (by assumption) ?ra11
      try simp only [List.getElem_toArray, List.getElem_cons_zero, List.getElem_cons_succ, Act.put, List.setIfInBounds_toArray, List.set_cons_zero, List.set_cons_succ]
      refine wpAnyH_take (i := 12) (v := undef) rfl (by decide +kernel) (by decide +kernel) (by decide +kernel) (fun _ _ _ h => h) (Or.inr ⟨by rfl, rfl⟩) (by assumption) ?ra12
      try simp only [List.getElem_toArray, List.getElem_cons_zero, List.getElem_cons_succ, Act.put, List.setIfInBounds_toArray, List.set_cons_zero, List.set_cons_succ]
      refine wpAnyH_take (i := 13) (v := undef) rfl (by decide +kernel) (by decide +kernel) (by decide +kernel) (fun _ _ _ h => h) (Or.inr ⟨by rfl, rfl⟩) (by assumption) ?ra13
      try simp only [List.getElem_toArray, List.getElem_cons_zero, List.getElem_cons_succ, Act.put, List.setIfInBounds_toArray, List.set_cons_zero, List.set_cons_succ]
      refine wpAnyH_take (i := 14) (v := undef) rfl (by decide +kernel) (by decide +kernel) (by decide +kernel) (fun _ _ _ h => h) (Or.inr ⟨by rfl, rfl⟩) (by assumption) ?ra14
      try simp only [List.getElem_toArray, List.getElem_cons_zero, List.getElem_cons_succ, Act.put, List.setIfInBounds_toArray, List.set_cons_zero, List.set_cons_succ]
      refine wpAnyH_take (i := 15) (v := undef) rfl (by decide +kernel) (by decide +kernel) (by decide +kernel) (fun _ _ _ h => h) (Or.inr ⟨by rfl, rfl⟩) (by assumption) ?ra15
      try simp only [List.getElem_toArray, List.getElem_cons_zero, List.getElem_cons_succ, Act.put, List.setIfInBounds_toArray, List.set_cons_zero, List.set_cons_succ]
      refine wpAnyH_take (i := 16) (v := ?va16) rfl (by decide +kernel) (by decide +kernel) (by decide +kernel) (fun _ _ _ h => h) (Or.inl ⟨by rfl, ?ya16⟩) (by assumption) ?ra16
      case ya16 => (intro w0 hSw; (try dsimp only at hSw); (try obtain ⟨p0, p1, p2, p3⟩ := hSw); go_simp; (try with_reducible rfl))
      try simp only [List.getElem_toArray, List.getElem_cons_zero, List.getElem_cons_succ, Act.put, List.setIfInBounds_toArray, List.set_cons_zero, List.set_cons_succ]
      refine wpAnyH_take (i := 17) (v := ?va17) rfl (by decide +kernel) (by decide +kernel) (by decide +kernel) (fun _ _ _ h => h) (Or.inl ⟨by rfl, ?ya17⟩) (by assumption) ?ra17
      case ya17 => (intro w0 hSw; (try dsimp only at hSw); (try obtain ⟨p0, p1, p2, p3⟩ := hSw); go_simp; (try with_reducible rfl))
      try simp only [List.getElem_toArray, List.getElem_cons_zero, List.getElem_cons_succ, Act.put, List.setIfInBounds_toArray, List.set_cons_zero, List.set_cons_succ]
      refine wpAnyH_done (by kernel_rfl) ?_ _
      go_wp2
      go_ret
      exact ⟨rfl, JD.out.below⟩

end Go.Proofs.YthkmgjkajllemaaDoor.Spec

/- The law FnFixInts answers true for every decimal and every scale: its cases. -/
namespace Go.Proofs.YthkmgjkajllemaaDoor.Spec
open Go.RowKit Go.Proofs.YthkmgjkajllemaaDoorW.PrintWords Go.Proofs.YthkmgjkajllemaaDoor.Num Go.Proofs.YthkmgjkajllemaaDoor.Str Go.Proofs.YthkmgjkajllemaaDoor.Nats Go.Proofs.YthkmgjkajllemaaDoor.Val Go.Proofs.YthkmgjkajllemaaDoor.Arith Go.Proofs.YthkmgjkajllemaaDoor.NatOps Go.Proofs.YthkmgjkajllemaaDoor.Make Go.Proofs.YthkmgjkajllemaaDoor.Fint
set_option linter.unusedVariables false
set_option linter.unusedSimpArgs false

theorem icmp_le (p q : Int) : decide (icmp p q ≤ 0) = decide (p ≤ q) := by
  unfold icmp
  by_cases h : p < q
  · rw [if_pos h, decide_eq_true (show p ≤ q by omega)]; rfl
  · by_cases h2 : p = q
    · rw [if_neg h, if_pos h2, decide_eq_true (show p ≤ q by omega)]; rfl
    · rw [if_neg h, if_neg h2, decide_eq_false (show ¬ p ≤ q by omega)]; rfl
theorem icmp_ge (p q : Int) : decide (0 ≤ icmp p q) = decide (q ≤ p) := by
  unfold icmp
  by_cases h : p < q
  · rw [if_pos h, decide_eq_false (show ¬ q ≤ p by omega)]; rfl
  · by_cases h2 : p = q
    · rw [if_neg h, if_pos h2, decide_eq_true (show q ≤ p by omega)]; rfl
    · rw [if_neg h, if_neg h2, decide_eq_true (show q ≤ p by omega)]; rfl
set_option maxHeartbeats 4000000 in
set_option maxRecDepth 100000 in
theorem ints_out_bad (neg sb : Bool) (n : Nat) (y yy z : Int) (w : World)
    (h29 : ∀ W, Calls Tryd.prog 29 #[.agg #[.bool neg, .int .u64 n, .int .i64 y]] W fun e w' => ∃ u, e = .returned (.tuple #[.agg #[.bool sb, u, .int .i64 yy], .bool false]) ∧ IsNew w' W.heap.size u n ∧ Below W.heap.size W w') :
    Calls Tryd.prog 7 #[.agg #[.bool neg, .int .u64 n, .int .i64 y], .int .i64 z] w fun e w' => e = .returned (.bool true) ∧ Below w.heap.size w w' := by
  have X29 := Lib.hid h29
  have HB0 : Hid (Hold w (w.alloc (.cells #[.bool neg, .int .u64 n, .int .i64 y] 32)) [(w.heap.size, 0, .bool neg), (w.heap.size, 1, .int .u64 n), (w.heap.size, 2, .int .i64 y)] []) := Lib.hid ⟨Cells.box3 (Cells.nil _) rfl _ _ _ _, trivial, (Below.refl _ _).alloc (Nat.le_refl _) _⟩
  clear h29
  go_enter Tryd.func7, Tryd.ntmps7
  go_wp2_with fail
  refine (X29.out _).mono ?_
  rintro e w1 ⟨u1, rfl, hn1, hb⟩
  have H1 := Lib.hid (((HB0.out.call hb).nat hn1 HB0.out.below.size).box3 (.bool sb) u1 (.int .i64 yy) 40)
  obtain ⟨A1, c1, rfl⟩ := hn1.slice
  clear hn1 hb HB0 X29
  go_wp2_with fail
  go_ret
  first
    | exact ⟨rfl, below_drew H1.out.below⟩
    | exact ⟨rfl, H1.out.drew.below⟩
    | exact ⟨rfl, H1.out.below⟩
set_option maxHeartbeats 4000000 in
set_option maxRecDepth 100000 in
theorem ints_out_neg (neg sb : Bool) (n : Nat) (y yy z : Int) (w : World) (hz : z < 0)
    (h29 : ∀ W, Calls Tryd.prog 29 #[.agg #[.bool neg, .int .u64 n, .int .i64 y]] W fun e w' => ∃ u, e = .returned (.tuple #[.agg #[.bool sb, u, .int .i64 yy], .bool true]) ∧ IsNew w' W.heap.size u n ∧ Below W.heap.size W w') :
    Calls Tryd.prog 7 #[.agg #[.bool neg, .int .u64 n, .int .i64 y], .int .i64 z] w fun e w' => e = .returned (.bool true) ∧ Below w.heap.size w w' := by
  have X29 := Lib.hid h29
  have HB0 : Hid (Hold w (w.alloc (.cells #[.bool neg, .int .u64 n, .int .i64 y] 32)) [(w.heap.size, 0, .bool neg), (w.heap.size, 1, .int .u64 n), (w.heap.size, 2, .int .i64 y)] []) := Lib.hid ⟨Cells.box3 (Cells.nil _) rfl _ _ _ _, trivial, (Below.refl _ _).alloc (Nat.le_refl _) _⟩
  have hz1 : decide (z < 0) = true := decide_eq_true hz
  clear h29
  go_enter Tryd.func7, Tryd.ntmps7
  go_wp2_with fail
  refine (X29.out _).mono ?_
  rintro e w1 ⟨u1, rfl, hn1, hb⟩
  have H1 := Lib.hid (((HB0.out.call hb).nat hn1 HB0.out.below.size).box3 (.bool sb) u1 (.int .i64 yy) 40)
  obtain ⟨A1, c1, rfl⟩ := hn1.slice
  clear hn1 hb HB0 X29
  go_wp2_with fail
  go_ret
  first
    | exact ⟨rfl, below_drew H1.out.below⟩
    | exact ⟨rfl, H1.out.drew.below⟩
    | exact ⟨rfl, H1.out.below⟩
set_option maxHeartbeats 4000000 in
set_option maxRecDepth 100000 in
theorem ints_out_big (neg sb : Bool) (n : Nat) (y yy z : Int) (w : World) (hz : 18 < z)
    (h29 : ∀ W, Calls Tryd.prog 29 #[.agg #[.bool neg, .int .u64 n, .int .i64 y]] W fun e w' => ∃ u, e = .returned (.tuple #[.agg #[.bool sb, u, .int .i64 yy], .bool true]) ∧ IsNew w' W.heap.size u n ∧ Below W.heap.size W w') :
    Calls Tryd.prog 7 #[.agg #[.bool neg, .int .u64 n, .int .i64 y], .int .i64 z] w fun e w' => e = .returned (.bool true) ∧ Below w.heap.size w w' := by
  have X29 := Lib.hid h29
  have HB0 : Hid (Hold w (w.alloc (.cells #[.bool neg, .int .u64 n, .int .i64 y] 32)) [(w.heap.size, 0, .bool neg), (w.heap.size, 1, .int .u64 n), (w.heap.size, 2, .int .i64 y)] []) := Lib.hid ⟨Cells.box3 (Cells.nil _) rfl _ _ _ _, trivial, (Below.refl _ _).alloc (Nat.le_refl _) _⟩
  have hz1 : decide (18 < z) = true := decide_eq_true hz
  clear h29
  go_enter Tryd.func7, Tryd.ntmps7
  go_wp2_with fail
  refine (X29.out _).mono ?_
  rintro e w1 ⟨u1, rfl, hn1, hb⟩
  have H1 := Lib.hid (((HB0.out.call hb).nat hn1 HB0.out.below.size).box3 (.bool sb) u1 (.int .i64 yy) 40)
  obtain ⟨A1, c1, rfl⟩ := hn1.slice
  clear hn1 hb HB0 X29
  go_wp2_with fail
  go_ret
  first
    | exact ⟨rfl, below_drew H1.out.below⟩
    | exact ⟨rfl, H1.out.drew.below⟩
    | exact ⟨rfl, H1.out.below⟩
structure I64 (w : World) (n s t q r : Nat) : Prop where
  no : 9223372036854775808 < q → ∀ W, Below w.heap.size w W → Calls Tryd.prog 69 #[.agg #[.bool true, .int .i8 s, .int .u64 n], .int .i64 t] W fun e w' => e = .returned (.tuple #[.int .i64 0, .int .i64 0, .bool false]) ∧ Below W.heap.size W w'
  ni : q ≤ 9223372036854775808 → ∀ W, Below w.heap.size w W → Calls Tryd.prog 69 #[.agg #[.bool true, .int .i8 s, .int .u64 n], .int .i64 t] W fun e w' => e = .returned (.tuple #[.int .i64 (-(q : Int)), .int .i64 (-(r : Int)), .bool true]) ∧ Below W.heap.size W w'
  po : 9223372036854775807 < q → ∀ W, Below w.heap.size w W → Calls Tryd.prog 69 #[.agg #[.bool false, .int .i8 s, .int .u64 n], .int .i64 t] W fun e w' => e = .returned (.tuple #[.int .i64 0, .int .i64 0, .bool false]) ∧ Below W.heap.size W w'
  pi : q ≤ 9223372036854775807 → ∀ W, Below w.heap.size w W → Calls Tryd.prog 69 #[.agg #[.bool false, .int .i8 s, .int .u64 n], .int .i64 t] W fun e w' => e = .returned (.tuple #[.int .i64 q, .int .i64 r, .bool true]) ∧ Below W.heap.size W w'

theorem ints_of (neg : Bool) (n s t m q r : Nat) (w : World) (hs : s ≤ 19) (ht : t ≤ 18) (hn : n ≤ 9999999999999999999) (hm : rq 5 (neg && decide (0 < n)) (n * 10 ^ t) (10 ^ s) = m) (hml : m < 1000000000 ^ 5) (hq : m / 10 ^ t = q) (hr : m % 10 ^ t = r) (hrl : r < 1000000000000000000) (H : I64 w n s t q r) :
    Calls Tryd.prog 7 #[.agg #[.bool neg, .int .u64 n, .int .i64 s], .int .i64 t] w fun e w' => e = .returned (.bool true) ∧ Below w.heap.size w w' := by
  have hM : (4611686018427387904 : Int) + 4611686018427387903 = 9223372036854775807 := by decide
  have hN : -(9223372036854775807 : Int) + -1 = -9223372036854775808 := by decide
  have hdm : (q : Int) * ((10 ^ t : Nat) : Int) + (r : Int) = (m : Int) := by
    have := Nat.div_add_mod m (10 ^ t)
    rw [hq, hr, Nat.mul_comm] at this
    rw [← this]; simp
  cases hb : (neg && decide (0 < n)) with
  | true =>
    rw [hb] at hm
    have hm' : rq 5 (neg && decide (0 < n)) (n * 10 ^ t) (10 ^ s) = m := by rw [hb]; exact hm
    by_cases hov : q ≤ 9223372036854775808
    · refine ints_in neg n s t m q (-(q : Int)) (-(r : Int)) 9223372036854775807 (-9223372036854775808) w hs ht hn hm' hml hq hM hN (by omega) (by omega)
        (fun W hW => fixInts_ok neg n s t _ _ true W hs hn (fun V hV => by rw [hb]; exact H.ni hov V (below_by hW hV))) ?_ ?_ ?_ ?_
      · rw [hb, icmp_le]; show decide (-(q : Int) ≤ 9223372036854775807) = true; exact decide_eq_true (by omega)
      · rw [hb, icmp_ge]; show decide ((-9223372036854775808 : Int) ≤ -(q : Int)) = true; exact decide_eq_true (by omega)
      · rw [hb]; show -(q : Int) * _ + -(r : Int) = -(m : Int); rw [← hdm, Int.neg_mul, Int.neg_add]
      · rw [hb]; rfl
    · refine ints_low neg n s t m q 0 0 9223372036854775807 (-9223372036854775808) w hs ht hn hm' hml hq hM hN (by omega) (by omega)
        (fun W hW => fixInts_ok neg n s t _ _ false W hs hn (fun V hV => by rw [hb]; exact H.no (Nat.lt_of_not_le hov) V (below_by hW hV))) ?_ ?_
      · rw [hb, icmp_le]; show decide (-(q : Int) ≤ 9223372036854775807) = true; exact decide_eq_true (by omega)
      · rw [hb, icmp_ge]; show decide ((-9223372036854775808 : Int) ≤ -(q : Int)) = false; exact decide_eq_false (by omega)
  | false =>
    rw [hb] at hm
    have hm' : rq 5 (neg && decide (0 < n)) (n * 10 ^ t) (10 ^ s) = m := by rw [hb]; exact hm
    by_cases hov : q ≤ 9223372036854775807
    · refine ints_in neg n s t m q (q : Int) (r : Int) 9223372036854775807 (-9223372036854775808) w hs ht hn hm' hml hq hM hN (by omega) (by omega)
        (fun W hW => fixInts_ok neg n s t _ _ true W hs hn (fun V hV => by rw [hb]; exact H.pi hov V (below_by hW hV))) ?_ ?_ ?_ ?_
      · rw [hb, icmp_le]; show decide ((q : Int) ≤ 9223372036854775807) = true; exact decide_eq_true (by omega)
      · rw [hb, icmp_ge]; show decide ((-9223372036854775808 : Int) ≤ (q : Int)) = true; exact decide_eq_true (by omega)
      · rw [hb]; exact hdm
      · rw [hb]; rfl
    · refine ints_high neg n s t m q 0 0 9223372036854775807 (-9223372036854775808) w hs ht hn hm' hml hq hM hN (by omega) (by omega)
        (fun W hW => fixInts_ok neg n s t _ _ false W hs hn (fun V hV => by rw [hb]; exact H.po (Nat.lt_of_not_le hov) V (below_by hW hV))) ?_ ?_
      · rw [hb, icmp_le]; show decide ((q : Int) ≤ 9223372036854775807) = false; exact decide_eq_false (by omega)
      · rw [hb, icmp_ge]; show decide ((-9223372036854775808 : Int) ≤ (q : Int)) = true; exact decide_eq_true (by omega)

theorem rEven_le2 (n d : Nat) (hn : n ≤ 9999999999999999999) (hd : 1 ≤ d) : rEven n d ≤ 9999999999999999999 := by
  have := div_le10 n d hn hd
  unfold rEven
  split <;> omega

/-- The law. -/
theorem ints_law (neg : Bool) (n : Nat) (y z : Int) (w : World) (hp : Fint.PowAt w) (he : ErrAt w) (hn0 : n < 18446744073709551616) (hz0 : -9223372036854775808 ≤ z) (hz1 : z ≤ 9223372036854775807) :
    Calls Tryd.prog 7 #[.agg #[.bool neg, .int .u64 n, .int .i64 y], .int .i64 z] w fun e w' => e = .returned (.bool true) ∧ Below w.heap.size w w' := by
  by_cases hn : 9999999999999999999 < n
  · exact ints_out_bad neg _ n y _ z w (fun W => ofFix_big neg n y W hn0 hn)
  have hn : n ≤ 9999999999999999999 := by omega
  by_cases hy0 : y < 0
  · exact ints_out_bad neg _ n y _ z w (fun W => ofFix_low neg n y W hn0 hn hy0)
  by_cases hy1 : 19 < y
  · exact ints_out_bad neg _ n y _ z w (fun W => ofFix_high neg n y W hn0 hn hy1)
  by_cases hz2 : z < 0
  · exact ints_out_neg neg _ n y _ z w hz2 (fun W => ofFix_ok neg n y W hn0 hn (by omega) (by omega))
  by_cases hz3 : 18 < z
  · exact ints_out_big neg _ n y _ z w hz3 (fun W => ofFix_ok neg n y W hn0 hn (by omega) (by omega))
  obtain ⟨s, rfl⟩ := Int.eq_ofNat_of_zero_le (show 0 ≤ y by omega)
  obtain ⟨t, rfl⟩ := Int.eq_ofNat_of_zero_le (show 0 ≤ z by omega)
  have hs : s ≤ 19 := by omega
  have ht : t ≤ 18 := by omega
  have hpw : ∀ {W : World}, Below w.heap.size w W → Fint.PowAt W := fun hb i hi => tab_at hp i hi hb
  have h10 : 0 < 10 ^ t := Nat.pow_pos (by decide)
  have h1018 : 10 ^ t ≤ 1000000000000000000 := by
    have := Nat.pow_le_pow_right (show 0 < 10 by decide) ht
    exact this
  by_cases hts : t < s
  · have hks : t + (s - t) = s := by omega
    have hm : rq 5 (neg && decide (0 < n)) (n * 10 ^ t) (10 ^ s) = rEven n (s - t) := by
      have := rq_even (neg && decide (0 < n)) n t (s - t) (by omega)
      rw [hks] at this
      exact this
    have hx := rEven_le2 n (s - t) hn (by omega)
    have hrl : rEven n (s - t) % 10 ^ t < 1000000000000000000 := Nat.lt_of_lt_of_le (Nat.mod_lt _ h10) h1018
    exact ints_of neg n s t _ _ _ w hs ht hn hm (Nat.lt_of_le_of_lt hx (by decide)) rfl rfl hrl
      ⟨fun ho W hW => int64_lt_neg_over n s t _ _ _ W hs ht hn (hpw hW) hts rfl hx rfl rfl hrl ho,
       fun ho W hW => int64_lt_neg_in n s t _ _ _ W hs ht hn (hpw hW) hts rfl hx rfl rfl hrl ho,
       fun ho W hW => int64_lt_nat_over n s t _ _ _ W hs ht hn (hpw hW) hts rfl hx rfl rfl hrl ho,
       fun ho W hW => int64_lt_nat_in n s t _ _ _ W hs ht hn (hpw hW) hts rfl hx rfl rfl hrl ho⟩
  · by_cases hte : t = s
    · subst hte
      have hm : rq 5 (neg && decide (0 < n)) (n * 10 ^ t) (10 ^ t) = n := by
        have := rq_exact 5 (neg && decide (0 < n)) n t 0
        rw [Nat.add_zero, Nat.pow_zero, Nat.mul_one] at this
        exact this
      have hrl : n % 10 ^ t < 1000000000000000000 := Nat.lt_of_lt_of_le (Nat.mod_lt _ h10) h1018
      exact ints_of neg n t t _ _ _ w hs ht hn hm (Nat.lt_of_le_of_lt hn (by decide)) rfl rfl hrl
        ⟨fun ho W hW => int64_eq_neg_over n t t _ _ _ W hs ht hn (hpw hW) rfl rfl hn rfl rfl hrl ho,
         fun ho W hW => int64_eq_neg_in n t t _ _ _ W hs ht hn (hpw hW) rfl rfl hn rfl rfl hrl ho,
         fun ho W hW => int64_eq_nat_over n t t _ _ _ W hs ht hn (hpw hW) rfl rfl hn rfl rfl hrl ho,
         fun ho W hW => int64_eq_nat_in n t t _ _ _ W hs ht hn (hpw hW) rfl rfl hn rfl rfl hrl ho⟩
    · have hst : s < t := by omega
      have hks : s + (t - s) = t := by omega
      have hm : rq 5 (neg && decide (0 < n)) (n * 10 ^ t) (10 ^ s) = n * 10 ^ (t - s) := by
        have := rq_exact 5 (neg && decide (0 < n)) n s (t - s)
        rw [hks] at this
        exact this
      have hpe : 0 < 10 ^ (t - s) := Nat.pow_pos (by decide)
      have hq : n * 10 ^ (t - s) / 10 ^ t = n / 10 ^ s := by
        have h : 10 ^ t = 10 ^ s * 10 ^ (t - s) := by rw [← Nat.pow_add, hks]
        rw [h, Nat.mul_div_mul_right _ _ hpe]
      have hr : n * 10 ^ (t - s) % 10 ^ t = n % 10 ^ s * 10 ^ (t - s) := by
        have h : 10 ^ t = 10 ^ s * 10 ^ (t - s) := by rw [← Nat.pow_add, hks]
        rw [h, Nat.mul_mod_mul_right]
      have hrl : n % 10 ^ s * 10 ^ (t - s) < 1000000000000000000 := by rw [← hr]; exact Nat.lt_of_lt_of_le (Nat.mod_lt _ h10) h1018
      have hml : n * 10 ^ (t - s) < 1000000000 ^ 5 := by
        have h2 : 10 ^ (t - s) ≤ 1000000000000000000 := Nat.le_trans (Nat.pow_le_pow_right (by decide) (show t - s ≤ t by omega)) h1018
        exact Nat.lt_of_le_of_lt (Nat.mul_le_mul hn h2) (by decide)
      exact ints_of neg n s t _ _ _ w hs ht hn hm hml hq hr hrl
        ⟨fun ho W hW => int64_gt_neg_over n s t _ _ _ W hs ht hn (hpw hW) hst rfl hn rfl rfl hrl ho,
         fun ho W hW => int64_gt_neg_in n s t _ _ _ W hs ht hn (hpw hW) hst rfl hn rfl rfl hrl ho,
         fun ho W hW => int64_gt_nat_over n s t _ _ _ W hs ht hn (hpw hW) hst rfl hn rfl rfl hrl ho,
         fun ho W hW => int64_gt_nat_in n s t _ _ _ W hs ht hn (hpw hW) hst rfl hn rfl rfl hrl ho⟩
end Go.Proofs.YthkmgjkajllemaaDoor.Spec

/- What the rows' lists of package-level variables give the walks: the table of powers of ten lies in memory. -/
namespace Go.Proofs.YthkmgjkajllemaaDoor.Laid
open Go.RowKit
theorem own : ownKnob Tryd.prog.godebug = none := by kernel_rfl
theorem laidOut : laidOutB Tryd.prog = true := by kernel_rfl
theorem gPow : Tryd.prog.globalNamed "given.example/pub-alexandrine/pub/govalues.pow10" = some 0 := by kernel_rfl
theorem gPowType : (Tryd.prog.globals[0]?).map (·.type) = some 112 := by kernel_rfl
theorem cells112 : Tryd.prog.cellsOf 112 = 20 := by kernel_rfl
theorem cells72 : Tryd.prog.cellsOf 72 = 1 := by kernel_rfl

/-- The table's numbers. -/
def zs : List Int := [1, 10, 100, 1000, 10000, 100000, 1000000, 10000000, 100000000, 1000000000, 10000000000, 100000000000, 1000000000000, 10000000000000, 100000000000000, 1000000000000000, 10000000000000000, 100000000000000000, 1000000000000000000, 10000000000000000000]
theorem zs_at (i : Nat) (h : i < 20) : zs.getD i 0 = Fint.p10 i :=
  (show ∀ i : Fin 20, zs.getD i.1 0 = Fint.p10 i.1 by unfold Fint.p10; decide +kernel) ⟨i, h⟩

/-- What the row's list gives the walks. -/
theorem powAt_of_head {W : World} {rest : List (String × DataW Unit)} (h : laidMet Tryd.prog (("given.example/pub-alexandrine/pub/govalues.pow10", Rows.laid_given_example_pub_alexandrine_pub_govalues_pow10) :: rest) W) : Fint.PowAt W := by
  have hT : Lib.TabIs Tryd.prog W "given.example/pub-alexandrine/pub/govalues.pow10" .u64 zs := Lib.tabIs_of_head gPow gPowType Tryd.underlying112 Tryd.underlying72 cells72 cells112 h
  intro i hi
  rw [← zs_at i hi]
  exact hT.cell gPow i hi

end Go.Proofs.YthkmgjkajllemaaDoor.Laid

/- What the rows' lists of package-level variables give the walks: the package's two errors are none that is nil. -/
namespace Go.Proofs.YthkmgjkajllemaaDoor.LaidErr
open Go.RowKit

theorem star : "*errors.errorString" = "*" ++ "errors.errorString" := rfl
theorem row140 (u : TypeId) (h : Tryd.prog.typeName? 3 u = some "*errors.errorString") : u = 140 :=
  typeName_ptr_named (nm := "errors.errorString") (by rw [← star]; kernel_rfl) (by kernel_rfl) (by decide) u (by rw [← star]; exact h)
theorem gRange : Tryd.prog.globalNamed "given.example/pub-alexandrine/pub/govalues.errScaleRange" = some 2 := by kernel_rfl
theorem gRangeType : (Tryd.prog.globals[2]?).map (·.type) = some 76 := by kernel_rfl
theorem gOver : Tryd.prog.globalNamed "given.example/pub-alexandrine/pub/govalues.errDecimalOverflow" = some 3 := by kernel_rfl
theorem gOverType : (Tryd.prog.globals[3]?).map (·.type) = some 76 := by kernel_rfl
theorem cells142 : Tryd.prog.cellsOf 142 = 1 := by kernel_rfl
theorem cells9 : Tryd.prog.cellsOf 9 = 1 := by kernel_rfl

theorem errAt_of_head {W : World} {rest : List (String × DataW Unit)}
    (h : laidMet Tryd.prog (("given.example/pub-alexandrine/pub/govalues.errDecimalOverflow", Rows.laid_given_example_pub_alexandrine_pub_govalues_errDecimalOverflow) :: ("given.example/pub-alexandrine/pub/govalues.errScaleRange", Rows.laid_given_example_pub_alexandrine_pub_govalues_errScaleRange) :: rest) W) : Make.ErrAt W := by
  obtain ⟨a0, s0, hv0, _, _, _⟩ := laid_sentinel h gOver gOverType Tryd.underlying76 row140 Tryd.underlying140 Tryd.underlying142 rfl rfl Tryd.underlying9 cells142 cells9
  obtain ⟨a1, s1, hv1, _, _, _⟩ := laid_sentinel h.tail gRange gRangeType Tryd.underlying76 row140 Tryd.underlying140 Tryd.underlying142 rfl rfl Tryd.underlying9 cells142 cells9
  have h3 := World.var?_cell gOver hv0 0
  have h2 := World.var?_cell gRange hv1 0
  exact ⟨⟨_, _, h2⟩, ⟨_, _, h3⟩, World.block_lt_of_cell? W _ h3⟩
end Go.Proofs.YthkmgjkajllemaaDoor.LaidErr

/- A decimal of govalues that comes in as data: three parts; and what the rows that list the errors and the powers of ten give the walks. -/
namespace Go.Proofs.YthkmgjkajllemaaDoor.FixArg
open Go.ChangeShapes Go.WideShapes Go.ChangeAt Go.RowKit Go.Joins
set_option linter.unusedVariables false

theorem cells32 : Tryd.prog.cellsOf 32 = 3 := by kernel_rfl
set_option maxRecDepth 100000 in
theorem open_fix {H : Type} {enc : TypeId × Value → H} {W : World} {base : Nat} {sp : Nat → Bool} {hd : Bool} {r : Reach} {b0 : Nat} {v : Value} {d : DataW H} {p : List MemPlace}
    (hv : Value.okWide Tryd.prog W r b0 32 v) (h : DataW.Trod enc Tryd.prog W base sp hd 32 v d p) :
    ∃ (neg : Bool) (n : Nat) (z : Int), v = .agg #[.bool neg, .int .u64 n, .int .i64 z] ∧ d = .agg [.lit (.bool neg), .lit (.int .u64 n), .lit (.int .i64 z)] ∧ p = [] ∧ n < 18446744073709551616 ∧ (Lit.int .i64 z).wf = true := by
  obtain ⟨c0, c1, c2, y0, y1, y2, m, rfl, rfl, rfl, hy0, hy1, hy2⟩ := open_agg3 Tryd.underlying32 (by kernel_rfl) cells32 hv h
  obtain ⟨x, e0, rfl⟩ := DataW.trod_bool Tryd.underlying4 hy0
  obtain ⟨y, e1, rfl, wy⟩ := DataW.trod_int Tryd.underlying22 hy1
  obtain ⟨z, e2, rfl, wz⟩ := DataW.trod_int Tryd.underlying3 hy2
  simp at e0 e1 e2
  subst e0 e1 e2
  have hy := bounds_u64 wy
  obtain ⟨n, rfl⟩ := Int.eq_ofNat_of_zero_le hy.1
  exact ⟨x, n, z, rfl, rfl, rfl, by have := hy.2; omega, wz⟩
set_option maxRecDepth 100000 in
theorem shut_fix {H : Type} {enc : TypeId × Value → H} (W' : World) (b : Nat) (sp : Nat → Bool) (hd : Bool) (neg : Bool) (n : Nat) (z : Int) (hn : n < 18446744073709551616) (wz : (Lit.int .i64 z).wf = true) :
    DataW.Trod enc Tryd.prog W' b sp hd 32 (.agg #[.bool neg, .int .u64 n, .int .i64 z]) (.agg [.lit (.bool neg), .lit (.int .u64 n), .lit (.int .i64 z)]) [] := by
  have wn : (Lit.int .u64 (n : Int)).wf = true := by go_wf
  simpa using shut_agg3 (enc := enc) (w := W') (base := b) (spare := sp) (held := hd) (y0 := (.lit (.bool neg), [])) (y1 := (.lit (.int .u64 n), [])) (y2 := (.lit (.int .i64 z), [])) Tryd.underlying32 (by kernel_rfl) cells32 ⟨1, by simp [DataW.trod, Tryd.underlying4]⟩ ⟨1, by simp [DataW.trod, Tryd.underlying22, wn]⟩ ⟨1, by simp [DataW.trod, Tryd.underlying3, wz]⟩

/-- What a row that lists the two errors and the table gives. -/
theorem laid_both {W : World} (h : laidMet Tryd.prog Rows.fnFixUnitsRow.laid W) : Make.ErrAt W ∧ Fint.PowAt W :=
  ⟨LaidErr.errAt_of_head h, Laid.powAt_of_head h.tail.tail⟩

/-- What lists of three variables read as. -/
theorem three_vars {H : Type} {enc : TypeId × Value → H} {P : Program} {W : World} {sp : Nat → Bool} {gs : List (DataW H)} {q : List MemPlace} {a b c : String} (hV : DataW.TrodVars enc P W sp [a, b, c] gs q) : ∃ g1 g2 g3, gs = [g1, g2, g3] := by
  obtain _ | ⟨g1, gs⟩ := gs
  · exact hV.elim
  · obtain ⟨_, _, _, _, _, _, _, _, _, _, hs, _⟩ := hV
    obtain _ | ⟨g2, gs⟩ := gs
    · exact hs.elim
    · obtain ⟨_, _, _, _, _, _, _, _, _, _, hs, _⟩ := hs
      obtain _ | ⟨g3, gs⟩ := gs
      · exact hs.elim
      · obtain ⟨_, _, _, _, _, _, _, _, _, _, hs, _⟩ := hs
        obtain _ | ⟨g4, gs⟩ := gs
        · exact ⟨g1, g2, g3, rfl⟩
        · exact hs.elim
end Go.Proofs.YthkmgjkajllemaaDoor.FixArg

namespace Go.Proofs.YthkmgjkajllemaaDoor.fnFixInts
open Go.ChangeShapes Go.WideShapes Go.ChangeAt Go.RowKit
set_option linter.unusedVariables false

open FixArg

theorem own : ownKnob Tryd.prog.godebug = none := by kernel_rfl
theorem laidOut : laidOutB Tryd.prog = true := by kernel_rfl

/-- The door's own heap meets the condition. -/
theorem door_met (os : Os) (args : Array Value) : laidMetH Tryd.prog Rows.fnFixIntsRow.laid ((World.doorLaid Tryd.prog 166 os).forCall (fun _ _ => 0) ⟨#[], args, []⟩).memory :=
  laidMetH_of_parts3 (fuel := 8) (laidMet_of_run' 8 (by kernel_rfl) (by kernel_rfl)) (by kernel_rfl) (by kernel_rfl)

set_option maxRecDepth 100000 in
theorem lifted (os : Os) (started : os.Started) (H : Type) (enc : TypeId × Value → H) :
    ReturnsInHanded {} Tryd.checked os 7 .any (fun w args => (Rows.fnFixIntsSpec.pre enc Tryd.prog Tryd.f7 [] false w args ∧ laidMetH Tryd.prog Rows.fnFixIntsRow.laid w) ∧ sizedMet enc Tryd.prog Tryd.f7 (OpenSpec.ofChange Rows.fnFixIntsSpec) false w args)
      (Rows.fnFixIntsSpec.post enc Tryd.prog Tryd.f7 false true false false) := by
  refine returnsInHanded_of_change_and (C := Tryd.checked) (X := fun w _ => laidMetH Tryd.prog Rows.fnFixIntsRow.laid w) (fun _ _ _ hh h => h.of_heap hh) own started (by kernel_rfl) Tryd.func7
    (ChangeSpec.witness_shaped (enc := enc) (C := Tryd.checked) (os := os) (X := fun w _ => laidMetH Tryd.prog Rows.fnFixIntsRow.laid w) false (World.doorLaid Tryd.prog 166 os) #[.agg #[.bool false, .int .u64 0, .int .i64 0], .int .i64 0] 8 rfl (World.shaped_of_RefB (by kernel_rfl) (by kernel_rfl)) (by kernel_rfl) (by kernel_rfl) (by kernel_rfl) (door_met os _)) ?_
  intro W base args ds gs before hval0 hW _ _ hL _
  have hval : ∀ (j : Nat) t v, Tryd.f7.params[j]? = some t → args[j]? = some v → Value.okWide Tryd.prog W .any base t v := hval0
  have hW' := hW
  obtain ⟨p, q, hA0, hV, rfl, hfz, hnd⟩ := hW
  have hA : DataW.TrodAll enc Tryd.prog W 0 (fun _ => true) true Tryd.f7.params.toList args.toList ds p := hA0
  rw [Tryd.params7] at hA hval
  obtain ⟨v0, vs0, d0, ds0, p0, q0, hargs, rfl, rfl, h0, r0⟩ := trodAll_cons hA
  obtain ⟨v1, vs1, d1, ds1, p1, q1, rfl, rfl, rfl, h1, r1⟩ := trodAll_cons r0
  obtain ⟨rfl, rfl, rfl⟩ := trodAll_nil r1
  obtain rfl : args = #[v0, v1] := by cases args; simp_all
  obtain ⟨neg, n, y, rfl, rfl, rfl, hn, wy⟩ := open_fix (hval 0 32 v0 rfl rfl) h0
  obtain ⟨z, rfl, rfl, rfl, wz⟩ := open_int Tryd.underlying3 (hval 1 3 v1 rfl rfl) h1
  obtain ⟨hE, hP⟩ := laid_both (W := W) (by
    have h := hL
    rw [MakeChecks.laidMetH_plain _ _ _ (by kernel_rfl)] at h
    exact h)
  obtain ⟨g1, g2, g3, hgs⟩ := three_vars hV
  subst hgs
  clear hA0 hval0
  refine (Spec.ints_law neg n y z W hP hE hn (bounds_i64 wz).1 (bounds_i64 wz).2).mono fun e W' ⟨he, bel⟩ => ?_
  subst he
  exact ⟨_, rfl, _, _, _, [], _, _, hW', trodAll_mk1 (shut_bool Tryd.underlying4 _), trodAll_cons_mk (shut_fix _ _ _ _ neg n y hn wy) (trodAll_cons_mk (shut_int Tryd.underlying3 wz) trodAll_mk0), Below.trodVars laidOut bel (by kernel_rfl) hV, bel.frame _, fun h => by cases h⟩

theorem said : Rows.FnFixIntsSaid :=
  OpenClaim.holds_of_wide 7 Tryd.f7 rfl rfl rfl rfl rfl rfl rfl ⟨rfl, rfl, rfl, rfl, rfl⟩ rfl rfl rfl rfl rfl (by kernel_rfl) Tryd.func7 (by kernel_rfl)
    (of_decide_eq_true (by kernel_rfl)) (by unfold Func.isWrapper; first | (rw [if_pos (by decide +kernel)]; kernel_rfl) | (rw [if_neg (by decide +kernel)]; exact ⟨rfl, rfl⟩))
    (fun os started H enc _ => lifted os started H enc)

theorem plain (f : FuncId) (fn : Func) (hf : Tryd.pinned.checked.prog.funcNamed "given.example/pub-alexandrine/laws.FnFixInts" = some f) (hfn : Tryd.pinned.checked.prog.funcs[f]? = some fn) :
    true = Tryd.pinned.checked.prog.looks [] ∧ ∀ (j : Nat) t, fn.params[j]? = some t → Tryd.pinned.checked.prog.wantsStandIn t = false := by
  obtain rfl : f = 7 := Option.some.inj ((show Tryd.prog.funcNamed "given.example/pub-alexandrine/laws.FnFixInts" = some 7 by kernel_rfl).symm.trans hf) |>.symm
  obtain rfl : fn = Tryd.f7 := (Option.some.inj (Tryd.func7.symm.trans hfn)).symm
  refine ⟨by kernel_rfl, fun j t ht => ?_⟩
  rw [Tryd.params7] at ht
  have hm : t ∈ [32, 3] := by simpa using Array.mem_of_getElem? ht
  have hall : ([32, 3].all fun u => !Tryd.prog.wantsStandIn u) = true := by kernel_rfl
  exact (show Tryd.prog.wantsStandIn t = false by simpa using List.all_eq_true.1 hall t hm)

theorem card : Rows.FnFixIntsCardSaid :=
  Claim7.holds_tied_plain_at .later [] _ _ _ _ said (fun _ h => by cases h) (by kernel_rfl) (fun _ h => by cases h) fnFixInts_row_tie rfl ⟨rfl, rfl⟩ (by kernel_rfl) rfl plain (by kernel_rfl)
end Go.Proofs.YthkmgjkajllemaaDoor.fnFixInts
