/- Lemmas and contracts of functions for the theorem of YthkmgjkajllemaaDoorReE. -/
import Derived.Test.YthkmgjkajllemaaDoorReA
import Derived.BigQuiet
import Derived.Test.YthkmgjkajllemaaDoorPnatGuessx1
import Derived.Lib.Hide

/- ZzMake and fixed: a decimal of govalues is made of parts that are ones. -/
namespace Go.Proofs.YthkmgjkajllemaaDoor.Spec
open Go.RowKit Go.Proofs.YthkmgjkajllemaaDoorW.PrintWords Go.Proofs.YthkmgjkajllemaaDoor.Make
set_option linter.unusedVariables false
set_option linter.unusedSimpArgs false

theorem zzMake_ok (neg : Bool) (n s : Nat) (w : World) (hs : s ≤ 19) (hn : n ≤ 9999999999999999999) :
    Calls Tryd.prog 84 #[.bool neg, .int .u64 n, .int .i64 s] w fun e w' => e = .returned (.tuple #[.agg #[.bool (neg && decide (0 < n)), .int .i8 s, .int .u64 n], .nilIface]) ∧ Below w.heap.size w w' := by
  have HM := Lib.hid (fun W => newSafe_ok neg n s W hs hn)
  generalize (neg && decide (0 < n)) = b at HM ⊢
  have HS : Hid (St w (w.alloc (.cells #[.bool false, .int .i8 0, .int .u64 0] 74))
      [(w.heap.size, 0, .bool false), (w.heap.size, 1, .int .i8 0), (w.heap.size, 2, .int .u64 0)] w.heap.size 3) :=
    ⟨Cells.box3 (Cells.nil _) rfl _ _ _ _, fun o _ => free_box rfl _ _ _, by simp, (Below.refl _ _).alloc (Nat.le_refl _) _⟩
  clear hs hn
  go_enter Tryd.func84, Tryd.ntmps84
  go_wp2_with (first | (go_at_call 80; go_must (refine (HM.out _).mono ?_); rintro e w2 ⟨rfl, hb⟩; have HS2 := Lib.hid (HS.out.call hb); obtain ⟨d0, d1, d2, -⟩ := HS2.out.cells; have f0 := HS2.out.free 0 (by omega); have f1 := HS2.out.free 1 (by omega); have f2 := HS2.out.free 2 (by omega); have hz := HS2.out.lt; clear hb))
  exact bodyPost_ret (v := .tuple #[.agg #[.bool b, .int .i8 s, .int .u64 n], .nilIface]) (by simp [results, Tryd.results84, go_sem, d0, d1, d2, f0, f1, f2, hz]) rfl ⟨rfl, ((HS2.out.below.setCell (p := ⟨w.heap.size, 0, none⟩) (Nat.le_refl _) _).setCell (p := ⟨w.heap.size, 1, none⟩) (Nat.le_refl _) _).setCell (p := ⟨w.heap.size, 2, none⟩) (Nat.le_refl _) _⟩

set_option maxHeartbeats 1000000 in
theorem fixed_ok (neg : Bool) (n s : Nat) (w : World) (hs : s ≤ 19) (hn : n ≤ 9999999999999999999) :
    Calls Tryd.prog 48 #[.agg #[.bool neg, .int .u64 n, .int .i64 s]] w fun e w' => e = .returned (.tuple #[.agg #[.bool (neg && decide (0 < n)), .int .i8 s, .int .u64 n], .bool true]) ∧ Below w.heap.size w w' := by
  have HM := Lib.hid (fun W => zzMake_ok neg n s W hs hn)
  generalize (neg && decide (0 < n)) = b at HM ⊢
  have HS : Hid (St w ((w.alloc (.cells #[.bool neg, .int .u64 n, .int .i64 s] 32)).alloc (.cells #[.bool false, .int .i8 0, .int .u64 0] 74))
      [(w.heap.size + 1, 0, .bool false), (w.heap.size + 1, 1, .int .i8 0), (w.heap.size + 1, 2, .int .u64 0), (w.heap.size, 0, .bool neg), (w.heap.size, 1, .int .u64 n), (w.heap.size, 2, .int .i64 s)] (w.heap.size + 1) 3) :=
    ⟨Cells.box3 (Cells.box3 (Cells.nil _) rfl _ _ _ _) (by simp) _ _ _ _, fun o _ => free_box (by simp) _ _ _, by simp, ((Below.refl _ _).alloc (Nat.le_refl _) _).alloc (by simp) _⟩
  clear hs hn
  go_enter Tryd.func48, Tryd.ntmps48
  go_wp2_with (first | (go_at_call 84; go_must (refine (HM.out _).mono ?_); rintro e w2 ⟨rfl, hb⟩; have HS2 := Lib.hid (HS.out.call hb); have HL := Lib.hid HS2.out.lt; clear hb))
  have hne : w.heap.size + 1 ≠ w2.heap.size := by have := HL.out; omega
  obtain ⟨W, hW⟩ : ∃ W, w2.alloc (.cells #[.bool b, .int .i8 s, .int .u64 n] 74) = W := ⟨_, rfl⟩
  have HS3 := Lib.hid (HS2.out.call ((Below.refl _ _).alloc (Nat.le_refl _) (.cells #[.bool b, .int .i8 s, .int .u64 n] 74)))
  have HC3 : Hid (Cells (w2.alloc (.cells #[.bool b, .int .i8 s, .int .u64 n] 74)) [(w2.heap.size, 0, .bool b), (w2.heap.size, 1, .int .i8 s), (w2.heap.size, 2, .int .u64 n)]) := Cells.box3 (Cells.nil _) rfl _ _ _ _
  rw [hW] at HS3 HC3 ⊢
  clear hW
  obtain ⟨d0, d1, d2, -⟩ := HS3.out.cells
  have f0 := HS3.out.free 0 (by omega)
  have f1 := HS3.out.free 1 (by omega)
  have f2 := HS3.out.free 2 (by omega)
  have hz := HS3.out.lt
  obtain ⟨k0, k1, k2, -⟩ := HC3.out
  go_region_held3 (fun W' => W'.cell? ⟨w2.heap.size, 0, none⟩ = some (.bool b) ∧ W'.cell? ⟨w2.heap.size, 1, none⟩ = some (.int .i8 s) ∧ W'.cell? ⟨w2.heap.size, 2, none⟩ = some (.int .u64 n)) (go_keep) (fail)
  all_goals (go_wp2; exact bodyPost_ret (v := .tuple #[.agg #[.bool b, .int .i8 s, .int .u64 n], .bool true]) (by simp [results, Tryd.results48, go_sem, d0, d1, d2, f0, f1, f2, hz]) rfl ⟨rfl, (((below_drew HS3.out.below).setCell (p := ⟨w.heap.size + 1, 0, none⟩) (Nat.le_succ _) _).setCell (p := ⟨w.heap.size + 1, 1, none⟩) (Nat.le_succ _) _).setCell (p := ⟨w.heap.size + 1, 2, none⟩) (Nat.le_succ _) _⟩)
end Go.Proofs.YthkmgjkajllemaaDoor.Spec

/- 0 and the unit in the last place of a decimal of govalues. -/
namespace Go.Proofs.YthkmgjkajllemaaDoor.Spec
open Go.RowKit Go.Proofs.YthkmgjkajllemaaDoorW.PrintWords Go.Proofs.YthkmgjkajllemaaDoor.Make
set_option linter.unusedVariables false
set_option linter.unusedSimpArgs false

theorem scale_any (b : Bool) (s n : Nat) (w : World) (hs : s ≤ 19) :
    Calls Tryd.prog 83 #[.agg #[.bool b, .int .i8 s, .int .u64 n]] w fun e w' => e = .returned (.int .i64 s) ∧ Below w.heap.size w w' := by
  have hw : IntKind.i64.wrap (s : Int) = (s : Int) := IntWalk.i64_in _ (by omega)
  go_enter Tryd.func83, Tryd.ntmps83
  go_wp2
  go_ret
  exact ⟨rfl, (Below.refl _ _).alloc (Nat.le_refl _) _⟩

theorem zero_any (b : Bool) (s n : Nat) (w : World) (hs : s ≤ 19) :
    Calls Tryd.prog 49 #[.agg #[.bool b, .int .i8 s, .int .u64 n]] w fun e w' => e = .returned (.agg #[.bool false, .int .i8 s, .int .u64 0]) ∧ Below w.heap.size w w' := by
  have HC := Lib.hid (fun W => scale_any b s n W hs)
  have HU := Lib.hid (fun W => newUnsafe_any false 0 s W hs)
  rw [show ((0 : Nat) : Int) = 0 from rfl, show (false && decide (0 < 0)) = false from rfl] at HU
  have HS : Hid (St w ((w.alloc (.cells #[.bool b, .int .i8 s, .int .u64 n] 74)).alloc (.cells #[.bool false, .int .i8 0, .int .u64 0] 74))
      [(w.heap.size + 1, 0, .bool false), (w.heap.size + 1, 1, .int .i8 0), (w.heap.size + 1, 2, .int .u64 0)] (w.heap.size + 1) 3) :=
    ⟨Cells.box3 (Cells.nil _) (by simp) _ _ _ _, fun o _ => free_box (by simp) _ _ _, by simp, ((Below.refl _ _).alloc (Nat.le_refl _) _).alloc (by simp) _⟩
  clear hs
  go_enter Tryd.func49, Tryd.ntmps49
  go_wp2_with (first | (go_at_call 83; go_must (refine (HC.out _).mono ?_); rintro e w2 ⟨rfl, hb⟩; have HS2 := Lib.hid (HS.out.call hb); clear hb) | (go_at_call 85; go_must (refine (HU.out _).mono ?_); rintro e w3 ⟨rfl, hb⟩; have HS3 := Lib.hid (HS2.out.call hb); obtain ⟨d0, d1, d2, -⟩ := HS3.out.cells; have f0 := HS3.out.free 0 (by omega); have f1 := HS3.out.free 1 (by omega); have f2 := HS3.out.free 2 (by omega); have hz := HS3.out.lt; clear hb))
  exact bodyPost_ret (v := .agg #[.bool false, .int .i8 s, .int .u64 0]) (by simp [results, Tryd.results49, go_sem, d0, d1, d2, f0, f1, f2, hz]) rfl ⟨rfl, ((HS3.out.below.setCell (p := ⟨w.heap.size + 1, 0, none⟩) (Nat.le_succ _) _).setCell (p := ⟨w.heap.size + 1, 1, none⟩) (Nat.le_succ _) _).setCell (p := ⟨w.heap.size + 1, 2, none⟩) (Nat.le_succ _) _⟩

theorem ulp_any (b : Bool) (s n : Nat) (w : World) (hs : s ≤ 19) :
    Calls Tryd.prog 53 #[.agg #[.bool b, .int .i8 s, .int .u64 n]] w fun e w' => e = .returned (.agg #[.bool false, .int .i8 s, .int .u64 1]) ∧ Below w.heap.size w w' := by
  have HC := Lib.hid (fun W => scale_any b s n W hs)
  have HU := Lib.hid (fun W => newUnsafe_any false 1 s W hs)
  rw [show ((1 : Nat) : Int) = 1 from rfl, show (false && decide (0 < 1)) = false from rfl] at HU
  have HS : Hid (St w ((w.alloc (.cells #[.bool b, .int .i8 s, .int .u64 n] 74)).alloc (.cells #[.bool false, .int .i8 0, .int .u64 0] 74))
      [(w.heap.size + 1, 0, .bool false), (w.heap.size + 1, 1, .int .i8 0), (w.heap.size + 1, 2, .int .u64 0)] (w.heap.size + 1) 3) :=
    ⟨Cells.box3 (Cells.nil _) (by simp) _ _ _ _, fun o _ => free_box (by simp) _ _ _, by simp, ((Below.refl _ _).alloc (Nat.le_refl _) _).alloc (by simp) _⟩
  clear hs
  go_enter Tryd.func53, Tryd.ntmps53
  go_wp2_with (first | (go_at_call 83; go_must (refine (HC.out _).mono ?_); rintro e w2 ⟨rfl, hb⟩; have HS2 := Lib.hid (HS.out.call hb); clear hb) | (go_at_call 85; go_must (refine (HU.out _).mono ?_); rintro e w3 ⟨rfl, hb⟩; have HS3 := Lib.hid (HS2.out.call hb); obtain ⟨d0, d1, d2, -⟩ := HS3.out.cells; have f0 := HS3.out.free 0 (by omega); have f1 := HS3.out.free 1 (by omega); have f2 := HS3.out.free 2 (by omega); have hz := HS3.out.lt; clear hb))
  exact bodyPost_ret (v := .agg #[.bool false, .int .i8 s, .int .u64 1]) (by simp [results, Tryd.results53, go_sem, d0, d1, d2, f0, f1, f2, hz]) rfl ⟨rfl, ((HS3.out.below.setCell (p := ⟨w.heap.size + 1, 0, none⟩) (Nat.le_succ _) _).setCell (p := ⟨w.heap.size + 1, 1, none⟩) (Nat.le_succ _) _).setCell (p := ⟨w.heap.size + 1, 2, none⟩) (Nat.le_succ _) _⟩
end Go.Proofs.YthkmgjkajllemaaDoor.Spec

/- Comparing whole numbers and fractions of the reference. -/
namespace Go.Proofs.YthkmgjkajllemaaDoor.Spec
open Go.RowKit Go.Proofs.YthkmgjkajllemaaDoorW.PrintWords Go.Proofs.YthkmgjkajllemaaDoor.Num Go.Proofs.YthkmgjkajllemaaDoor.Str Go.Proofs.YthkmgjkajllemaaDoor.Nats Go.Proofs.YthkmgjkajllemaaDoor.Val Go.Proofs.YthkmgjkajllemaaDoor.Arith Go.Proofs.YthkmgjkajllemaaDoor.NatOps Go.Proofs.YthkmgjkajllemaaDoor.Make
set_option linter.unusedVariables false
set_option linter.unusedSimpArgs false

/-- How two numbers with a sign compare. -/
def icmp (p q : Int) : Int := if p < q then -1 else if p = q then 0 else 1

theorem icmp_nn {p q : Int} (hp : 0 ≤ p) (hq : 0 ≤ q) : icmp p q = cmp p.natAbs q.natAbs := by
  unfold icmp cmp
  by_cases h : p < q
  · have h3 : p.natAbs < q.natAbs := by omega
    rw [if_pos h, if_pos h3]
  · have h3 : ¬ p.natAbs < q.natAbs := by omega
    rw [if_neg h, if_neg h3]
    by_cases h2 : p = q
    · have h4 : p.natAbs = q.natAbs := by omega
      rw [if_pos h2, if_pos h4]
    · have h4 : ¬ p.natAbs = q.natAbs := by omega
      rw [if_neg h2, if_neg h4]
theorem icmp_neg {p q : Int} (hp : p < 0) (hq : q < 0) : icmp p q = cmp q.natAbs p.natAbs := by
  unfold icmp cmp
  by_cases h : p < q
  · have h3 : q.natAbs < p.natAbs := by omega
    rw [if_pos h, if_pos h3]
  · have h3 : ¬ q.natAbs < p.natAbs := by omega
    rw [if_neg h, if_neg h3]
    by_cases h2 : p = q
    · have h4 : q.natAbs = p.natAbs := by omega
      rw [if_pos h2, if_pos h4]
    · have h4 : ¬ q.natAbs = p.natAbs := by omega
      rw [if_neg h2, if_neg h4]
theorem icmp_lt {p q : Int} (h : p < q) : icmp p q = -1 := if_pos h
theorem icmp_gt {p q : Int} (h : q < p) : icmp p q = 1 := by unfold icmp; rw [if_neg (by omega), if_neg (by omega)]

set_option maxHeartbeats 2000000 in
/-- Whole.Cmp. -/
theorem wholeCmp_any (p q : Int) (u v : Value) (w : World) (hu : IsNat w u p.natAbs) (hv : IsNat w v q.natAbs) (hm : (limbs p.natAbs).length < 1000000) (hn : (limbs q.natAbs).length < 1000000) :
    Calls Tryd.prog 33 #[.agg #[.bool (decide (p < 0)), u], .agg #[.bool (decide (q < 0)), v]] w fun e w' => e = .returned (.int .i64 (icmp p q)) ∧ Below w.heap.size w w' := by
  have hb2 : Below w.heap.size w ((w.alloc (.cells #[.bool (decide (p < 0)), u] 37)).alloc (.cells #[.bool (decide (q < 0)), v] 37)) := ((Below.refl _ _).alloc (Nat.le_refl _) _).alloc (by simp) _
  have hu2 := hu.below hb2
  have hv2 := hv.below hb2
  have h1 := natCmp_any u v _ _ _ hu2 hv2 hm hn
  have h2 := natCmp_any v u _ _ _ hv2 hu2 hn hm
  obtain ⟨A, c, rfl, hc, hr⟩ := hu
  obtain ⟨A', c', rfl, hc', hr'⟩ := hv
  clear hr hr' hc hc' hu2 hv2 hm hn
  by_cases hp : p < 0 <;> by_cases hq : q < 0
  · rw [icmp_neg hp hq]
    rw [show decide (p < 0) = true from decide_eq_true hp, show decide (q < 0) = true from decide_eq_true hq] at *
    have H := Lib.hid h2
    have HB := Lib.hid hb2
    clear h1 h2 hb2 hp hq
    go_enter Tryd.func33, Tryd.ntmps33
    go_wp2_with (first | (go_at_call 60; go_must (refine H.out.mono ?_); rintro e w2 ⟨rfl, hb⟩; have HB2 := Lib.hid (HB.out.trans (hb.mono HB.out.size)); clear hb))
    go_ret
    exact ⟨rfl, HB2.out⟩
  · rw [icmp_lt (by omega)]
    rw [show decide (p < 0) = true from decide_eq_true hp, show decide (q < 0) = false from decide_eq_false hq] at *
    have HB := Lib.hid hb2
    clear h1 h2 hb2 hp hq
    go_enter Tryd.func33, Tryd.ntmps33
    go_wp2
    go_ret
    exact ⟨rfl, HB.out⟩
  · rw [icmp_gt (by omega)]
    rw [show decide (p < 0) = false from decide_eq_false hp, show decide (q < 0) = true from decide_eq_true hq] at *
    have HB := Lib.hid hb2
    clear h1 h2 hb2 hp hq
    go_enter Tryd.func33, Tryd.ntmps33
    go_wp2
    go_ret
    exact ⟨rfl, HB.out⟩
  · rw [icmp_nn (by omega) (by omega)]
    rw [show decide (p < 0) = false from decide_eq_false hp, show decide (q < 0) = false from decide_eq_false hq] at *
    have H := Lib.hid h1
    have HB := Lib.hid hb2
    clear h1 h2 hb2 hp hq
    go_enter Tryd.func33, Tryd.ntmps33
    go_wp2_with (first | (go_at_call 60; go_must (refine H.out.mono ?_); rintro e w2 ⟨rfl, hb⟩; have HB2 := Lib.hid (HB.out.trans (hb.mono HB.out.size)); clear hb))
    go_ret
    exact ⟨rfl, HB2.out⟩

/-- Whole.Mul, with signs. -/
theorem wholeMul_int (p : Int) (d : Nat) (u v : Value) (w : World) (hu : IsNat w u p.natAbs) (hv : IsNat w v d) (hm : (limbs p.natAbs).length < 1000000) (hn : (limbs d).length < 1000000) :
    Calls Tryd.prog 70 #[.agg #[.bool (decide (p < 0)), u], .agg #[.bool false, v]] w fun e w' => ∃ r, e = .returned (.agg #[.bool (decide (p * d < 0)), r]) ∧ IsNew w' w.heap.size r (p * d).natAbs ∧ Below w.heap.size w w' := by
  have h := wholeMul_any (decide (p < 0)) false u v p.natAbs d w hu hv hm hn
  have e1 : (p * (d : Int)).natAbs = p.natAbs * d := by rw [Int.natAbs_mul]; rfl
  have e2 : ((decide (p < 0) != false) && decide (0 < p.natAbs * d)) = decide (p * (d : Int) < 0) := by
    rcases Nat.eq_zero_or_pos d with h0 | h0
    · subst h0; simp
    · by_cases hp : p < 0
      · have h1 : 0 < p.natAbs * d := Nat.mul_pos (by omega) h0
        have h2 : p * (d : Int) < 0 := Int.mul_neg_of_neg_of_pos hp (by omega)
        simp [hp, h1, h2]
      · have h2 : ¬ (p * (d : Int) < 0) := by
          have := Int.mul_nonneg (show 0 ≤ p by omega) (show (0 : Int) ≤ d by omega)
          omega
        simp [hp, h2]
  rw [e2] at h
  rw [e1]
  exact h

set_option maxHeartbeats 800000 in
set_option maxRecDepth 100000 in
/-- Frac.Cmp: p/d beside q/f. -/
theorem fracCmp_any (p q : Int) (d f : Nat) (u v u' v' : Value) (w : World) (hu : IsNat w u p.natAbs) (hv : IsNat w v d) (hu' : IsNat w u' q.natAbs) (hv' : IsNat w v' f)
    (hp : (limbs p.natAbs).length < 1000) (hd : (limbs d).length < 1000) (hq : (limbs q.natAbs).length < 1000) (hf : (limbs f).length < 1000)
    (hpf : (limbs (p * f).natAbs).length < 1000000) (hqd : (limbs (q * d).natAbs).length < 1000000) :
    Calls Tryd.prog 36 #[.agg #[.bool (decide (p < 0)), u, v], .agg #[.bool (decide (q < 0)), u', v']] w fun e w' => e = .returned (.int .i64 (icmp (p * f) (q * d))) ∧ Below w.heap.size w w' := by
  have HM1 := Lib.hid (fun W h1 h2 => wholeMul_int p f u v' W h1 h2 (by omega) (by omega))
  have HM2 := Lib.hid (fun W h1 h2 => wholeMul_int q d u' v W h1 h2 (by omega) (by omega))
  have HC := Lib.hid (fun r r' W h1 h2 => wholeCmp_any (p * f) (q * d) r r' W h1 h2 hpf hqd)
  have HU := Lib.hid (fun (W : World) (hb : Below w.heap.size w W) => hu.below hb)
  have HV := Lib.hid (fun (W : World) (hb : Below w.heap.size w W) => hv.below hb)
  have HU' := Lib.hid (fun (W : World) (hb : Below w.heap.size w W) => hu'.below hb)
  have HV' := Lib.hid (fun (W : World) (hb : Below w.heap.size w W) => hv'.below hb)
  obtain ⟨A, c, rfl, hc, hr⟩ := hu
  obtain ⟨B, cb, rfl, hcb, hrb⟩ := hv
  obtain ⟨A', c', rfl, hc', hr'⟩ := hu'
  obtain ⟨B', cb', rfl, hcb', hrb'⟩ := hv'
  clear hc hr hcb hrb hc' hr' hcb' hrb' hp hd hq hf hpf hqd
  generalize decide (p < 0) = x at HM1 ⊢
  generalize decide (q < 0) = y at HM2 ⊢
  generalize decide (p * (f : Int) < 0) = x2 at HM1 HC ⊢
  generalize decide (q * (d : Int) < 0) = y2 at HM2 HC ⊢
  generalize icmp (p * f) (q * d) = res at HC ⊢
  generalize (p * (f : Int)).natAbs = m at HM1 HC ⊢
  generalize (q * (d : Int)).natAbs = n at HM2 HC ⊢
  generalize (limbs p.natAbs).length = lp at *
  generalize (limbs q.natAbs).length = lq at *
  generalize (limbs d).length = ld at *
  generalize (limbs f).length = lf at *
  have HS : Hid (St w ((w.alloc (.cells #[.bool x, .slice A lp c, .slice B ld cb] 45)).alloc (.cells #[.bool y, .slice A' lq c', .slice B' lf cb'] 45))
      [(w.heap.size + 1, 0, .bool y), (w.heap.size + 1, 1, .slice A' lq c'), (w.heap.size + 1, 2, .slice B' lf cb'), (w.heap.size, 0, .bool x), (w.heap.size, 1, .slice A lp c), (w.heap.size, 2, .slice B ld cb)] (w.heap.size + 1) 3) :=
    ⟨Cells.box3 (Cells.box3 (Cells.nil _) rfl _ _ _ _) (by simp) _ _ _ _, fun o _ => free_box (by simp) _ _ _, by simp, ((Below.refl _ _).alloc (Nat.le_refl _) _).alloc (by simp) _⟩
  go_enter Tryd.func36, Tryd.ntmps36
  go_wp2
  obtain ⟨W, hW⟩ : ∃ W, (w.alloc (.cells #[.bool x, .slice A lp c, .slice B ld cb] 45)).alloc (.cells #[.bool y, .slice A' lq c', .slice B' lf cb'] 45) = W := ⟨_, rfl⟩
  rw [hW] at HS ⊢
  clear hW
  have HS1 := Lib.hid (HS.out.call (below_drew (Below.refl _ _)))
  clear HS
  go_region_held3 (fun W' => W'.cell? ⟨w.heap.size + 1, 0, none⟩ = some (.bool y) ∧ W'.cell? ⟨w.heap.size + 1, 1, none⟩ = some (.slice A' lq c') ∧ W'.cell? ⟨w.heap.size + 1, 2, none⟩ = some (.slice B' lf cb') ∧ W'.cell? ⟨w.heap.size, 0, none⟩ = some (.bool x) ∧ W'.cell? ⟨w.heap.size, 1, none⟩ = some (.slice A lp c) ∧ W'.cell? ⟨w.heap.size, 2, none⟩ = some (.slice B ld cb))
    (first | exact (by have h := HS4.out.cells; exact ⟨h.1, h.2.1, h.2.2.1, h.2.2.2.1, h.2.2.2.2.1, h.2.2.2.2.2.1⟩) | exact (by have h := HS3.out.cells; exact ⟨h.1, h.2.1, h.2.2.1, h.2.2.2.1, h.2.2.2.2.1, h.2.2.2.2.2.1⟩) | exact (by have h := HS2.out.cells; exact ⟨h.1, h.2.1, h.2.2.1, h.2.2.2.1, h.2.2.2.2.1, h.2.2.2.2.2.1⟩) | exact (by have h := HS1.out.cells; exact ⟨h.1, h.2.1, h.2.2.1, h.2.2.2.1, h.2.2.2.2.1, h.2.2.2.2.2.1⟩) | go_keep)
    (first | (go_at_call 70; with_reducible refine (HM1.out _ (HU.out _ HS1.out.below) (HV'.out _ HS1.out.below)).mono ?_; rintro e w2 ⟨r, rfl, hn, hb⟩; have HS2 := Lib.hid (HS1.out.call hb); have HG2 := Lib.hid hn; obtain ⟨A2, c2, rfl⟩ := hn.slice; clear hn hb) | (go_at_call 70; with_reducible refine (HM2.out _ (HU'.out _ HS2.out.below) (HV.out _ HS2.out.below)).mono ?_; rintro e w3 ⟨r, rfl, hn, hb⟩; have HS3 := Lib.hid (HS2.out.call hb); have HG3 := Lib.hid (HG2.out.below hb); have HG3' := Lib.hid hn; obtain ⟨A3, c3, rfl⟩ := hn.slice; clear hn hb) | (go_at_call 33; refine (HC.out _ _ _ HG3.out.isNat HG3'.out.isNat).mono ?_; rintro e w4 ⟨rfl, hb⟩; have HS4 := Lib.hid (HS3.out.call hb); clear hb))
  all_goals (go_wp2; go_ret; exact ⟨rfl, HS4.out.below⟩)
end Go.Proofs.YthkmgjkajllemaaDoor.Spec

/- Decimal numbers of the reference as fractions. -/
namespace Go.Proofs.YthkmgjkajllemaaDoor.Spec
open Go.RowKit Go.Proofs.YthkmgjkajllemaaDoorW.PrintWords Go.Proofs.YthkmgjkajllemaaDoor.Num Go.Proofs.YthkmgjkajllemaaDoor.Str Go.Proofs.YthkmgjkajllemaaDoor.Nats Go.Proofs.YthkmgjkajllemaaDoor.Val Go.Proofs.YthkmgjkajllemaaDoor.Arith Go.Proofs.YthkmgjkajllemaaDoor.NatOps Go.Proofs.YthkmgjkajllemaaDoor.Make
set_option linter.unusedVariables false
set_option linter.unusedSimpArgs false

set_option maxHeartbeats 2000000 in
set_option maxRecDepth 100000 in
/-- Dec.Frac: z / 10^s, where places are behind the point. -/
theorem decFrac_pos (z : Int) (s b0 : Nat) (u : Value) (w : World) (hu : IsNew w b0 u z.natAbs) (hb0 : b0 ≤ w.heap.size) (hs : 0 < s) (hs1 : s < 1000) :
    Calls Tryd.prog 30 #[.agg #[.bool (decide (z < 0)), u, .int .i64 (-(s : Int))]] w fun e w' => ∃ u' v', e = .returned (.agg #[.bool (decide (z < 0)), u', v']) ∧ IsNew w' b0 u' z.natAbs ∧ IsNew w' b0 v' (10 ^ s) ∧ Below w.heap.size w w' := by
  have HP := Lib.hid (fun W => pow10_any s W (by omega))
  have HU := Lib.hid (fun (W : World) (hb : Below w.heap.size w W) => hu.below hb)
  have HB0 := Lib.hid hb0
  obtain ⟨A, c, rfl⟩ := hu.slice
  clear hu hb0
  generalize decide (z < 0) = x at *
  generalize z.natAbs = m at *
  have g0 : decide (0 ≤ -(s : Int)) = false := decide_eq_false (by omega)
  have hsp : 1 ≤ (s : Int) := by omega
  have hw : IntKind.i64.wrap (s : Int) = (s : Int) := IntWalk.i64_in _ (by omega)
  have hnn : -(-(s : Int)) = (s : Int) := by omega
  have HS : Hid (St w ((w.alloc (.cells #[.bool x, .slice A (limbs m).length c, .int .i64 (-(s : Int))] 40)).alloc (.cells #[.bool false, .slice none 0 0, .slice none 0 0] 45))
      [(w.heap.size + 1, 0, .bool false), (w.heap.size + 1, 1, .slice none 0 0), (w.heap.size + 1, 2, .slice none 0 0), (w.heap.size, 0, .bool x), (w.heap.size, 1, .slice A (limbs m).length c), (w.heap.size, 2, .int .i64 (-(s : Int)))] (w.heap.size + 1) 3) :=
    ⟨Cells.box3 (Cells.box3 (Cells.nil _) rfl _ _ _ _) (by simp) _ _ _ _, fun o _ => free_box (by simp) _ _ _, by simp, ((Below.refl _ _).alloc (Nat.le_refl _) _).alloc (by simp) _⟩
  have hne : w.heap.size + 1 ≠ w.heap.size := by omega
  clear hs
  go_enter Tryd.func30, Tryd.ntmps30
  go_wp2
  obtain ⟨W, hW⟩ : ∃ W, (w.alloc (.cells #[.bool x, .slice A (limbs m).length c, .int .i64 (-(s : Int))] 40)).alloc (.cells #[.bool false, .slice none 0 0, .slice none 0 0] 45) = W := ⟨_, rfl⟩
  rw [hW] at HS ⊢
  clear hW
  have HS1 := Lib.hid (HS.out.call (below_drew (Below.refl _ _)))
  clear HS
  go_region_held3 (fun W' => W'.cell? ⟨w.heap.size, 0, none⟩ = some (.bool x) ∧ W'.cell? ⟨w.heap.size, 1, none⟩ = some (.slice A (limbs m).length c) ∧ W'.cell? ⟨w.heap.size, 2, none⟩ = some (.int .i64 (-(s : Int))))
    (first | exact (by have h := HS2.out.cells.2.2.2; exact ⟨h.1, h.2.1, h.2.2.1⟩) | exact (by have h := HS1.out.cells.2.2.2; exact ⟨h.1, h.2.1, h.2.2.1⟩) | go_keep)
    (first | (go_at_call 57; (try rw [hnn]); (with_reducible refine (HP.out _).mono ?_); rintro e w2 ⟨r, rfl, hn, hb⟩; have HS2 := Lib.hid (HS1.out.call hb); have HG2 := Lib.hid hn; obtain ⟨A2, c2, rfl⟩ := hn.slice; obtain ⟨d0, d1, d2, b0', b1', b2', -⟩ := HS2.out.cells; have f0 := HS2.out.free 0 (by omega); have f1 := HS2.out.free 1 (by omega); have f2 := HS2.out.free 2 (by omega); have hz := HS2.out.lt; clear hn hb))
  all_goals (go_wp2; have HF : Hid (Below w.heap.size w _) := ((HS2.out.below.setCell (p := ⟨w.heap.size + 1, 0, none⟩) (Nat.le_succ _) (.bool x)).setCell (p := ⟨w.heap.size + 1, 1, none⟩) (Nat.le_succ _) (.slice A (limbs m).length c)).setCell (p := ⟨w.heap.size + 1, 2, none⟩) (Nat.le_succ _) (.slice A2 (limbs (10 ^ s)).length c2); exact bodyPost_ret (v := .agg #[.bool x, .slice A (limbs m).length c, .slice A2 (limbs (10 ^ s)).length c2]) (by simp [results, Tryd.results30, go_sem, d0, d1, d2, f0, f1, f2, hz]) rfl ⟨_, _, rfl, HU.out _ HF.out, (((HG2.out.set (by have := HS1.out.lt; exact this) _).set (by have := HS1.out.lt; exact this) _).set (by have := HS1.out.lt; exact this) _).lower (Nat.le_trans HB0.out HS1.out.below.size), HF.out⟩)

set_option maxHeartbeats 2000000 in
set_option maxRecDepth 100000 in
/-- Dec.Frac of a whole number. -/
theorem decFrac_zero (z : Int) (b0 : Nat) (u : Value) (w : World) (hu : IsNew w b0 u z.natAbs) (hb0 : b0 ≤ w.heap.size) (hl : (limbs z.natAbs).length < 1000) :
    Calls Tryd.prog 30 #[.agg #[.bool (decide (z < 0)), u, .int .i64 0]] w fun e w' => ∃ u' v', e = .returned (.agg #[.bool (decide (z < 0)), u', v']) ∧ IsNew w' b0 u' z.natAbs ∧ IsNew w' b0 v' 1 ∧ Below w.heap.size w w' := by
  have h10 : (limbs (10 ^ 0)).length < 1000 := by rw [show 10 ^ 0 = 1 from rfl, limbs_one 1 (by omega) (by omega)]; simp
  have HP := Lib.hid (fun W => pow10_any 0 W (by omega))
  have HM := Lib.hid (fun v W h1 h2 => natMul_any u v z.natAbs (10 ^ 0) W h1 h2 (by omega) (by omega))
  have HW := Lib.hid (fun r W hr => wholeMk_any (decide (z < 0)) r z.natAbs W hr)
  have HO := Lib.hid (fun W => one_any W)
  rw [show z.natAbs * 10 ^ 0 = z.natAbs by simp] at HM
  rw [show (decide (z < 0) && decide (0 < z.natAbs)) = decide (z < 0) by by_cases h : z < 0 <;> simp [h]; omega] at HW
  have HU := Lib.hid (fun (W : World) (hb : Below w.heap.size w W) => (hu.below hb).isNat)
  have HB0 := Lib.hid hb0
  obtain ⟨A, c, rfl⟩ := hu.slice
  clear hu hb0 h10 hl
  generalize decide (z < 0) = x at *
  generalize z.natAbs = m at *
  have HS : Hid (St w ((w.alloc (.cells #[.bool x, .slice A (limbs m).length c, .int .i64 0] 40)).alloc (.cells #[.bool false, .slice none 0 0, .slice none 0 0] 45))
      [(w.heap.size + 1, 0, .bool false), (w.heap.size + 1, 1, .slice none 0 0), (w.heap.size + 1, 2, .slice none 0 0), (w.heap.size, 0, .bool x), (w.heap.size, 1, .slice A (limbs m).length c), (w.heap.size, 2, .int .i64 0)] (w.heap.size + 1) 3) :=
    ⟨Cells.box3 (Cells.box3 (Cells.nil _) rfl _ _ _ _) (by simp) _ _ _ _, fun o _ => free_box (by simp) _ _ _, by simp, ((Below.refl _ _).alloc (Nat.le_refl _) _).alloc (by simp) _⟩
  have hne : w.heap.size + 1 ≠ w.heap.size := by omega
  go_enter Tryd.func30, Tryd.ntmps30
  go_wp2
  obtain ⟨W, hW⟩ : ∃ W, (w.alloc (.cells #[.bool x, .slice A (limbs m).length c, .int .i64 0] 40)).alloc (.cells #[.bool false, .slice none 0 0, .slice none 0 0] 45) = W := ⟨_, rfl⟩
  rw [hW] at HS ⊢
  clear hW
  have HS1 := Lib.hid (HS.out.call (below_drew (Below.refl _ _)))
  clear HS
  go_region_held3 (fun W' => W'.cell? ⟨w.heap.size, 0, none⟩ = some (.bool x) ∧ W'.cell? ⟨w.heap.size, 1, none⟩ = some (.slice A (limbs m).length c) ∧ W'.cell? ⟨w.heap.size, 2, none⟩ = some (.int .i64 0))
    (first | exact (by have h := HS5.out.cells.2.2.2; exact ⟨h.1, h.2.1, h.2.2.1⟩) | exact (by have h := HS4.out.cells.2.2.2; exact ⟨h.1, h.2.1, h.2.2.1⟩) | exact (by have h := HS3.out.cells.2.2.2; exact ⟨h.1, h.2.1, h.2.2.1⟩) | exact (by have h := HS2.out.cells.2.2.2; exact ⟨h.1, h.2.1, h.2.2.1⟩) | exact (by have h := HS1.out.cells.2.2.2; exact ⟨h.1, h.2.1, h.2.2.1⟩) | go_keep)
    (first | (go_at_call 57; (refine (HP.out _).mono ?_); rintro e w2 ⟨r, rfl, hn, hb⟩; have HS2 := Lib.hid (HS1.out.call hb); have HG2 := Lib.hid hn.isNat; obtain ⟨A2, c2, rfl⟩ := hn.slice; clear hn hb) | (go_at_call 56; (refine (HM.out _ _ (HU.out _ HS2.out.below) HG2.out).mono ?_); rintro e w3 ⟨r, rfl, hn, hb⟩; have HS3 := Lib.hid (HS2.out.call hb); have HG3 := Lib.hid hn; obtain ⟨A3, c3, rfl⟩ := hn.slice; clear hn hb) | (go_at_call 62; (refine (HW.out _ _ HG3.out.isNat).mono ?_); rintro e w4 ⟨rfl, hb⟩; have HS4 := Lib.hid (HS3.out.call hb); have HG4 := Lib.hid (HG3.out.below hb); clear hb) | (go_at_call 55; (refine (HO.out _).mono ?_); rintro e w5 ⟨r, rfl, hn, hb⟩; have HS5 := Lib.hid (HS4.out.call hb); have HG5 := Lib.hid (HG4.out.below hb); have HG5' := Lib.hid hn; obtain ⟨A5, c5, rfl⟩ := hn.slice; obtain ⟨d0, d1, d2, b0', b1', b2', -⟩ := HS5.out.cells; have f0 := HS5.out.free 0 (by omega); have f1 := HS5.out.free 1 (by omega); have f2 := HS5.out.free 2 (by omega); have hz := HS5.out.lt; clear hn hb))
  all_goals (go_wp2; exact bodyPost_ret (v := .agg #[.bool x, .slice A3 (limbs m).length c3, .slice A5 (limbs 1).length c5]) (by simp [results, Tryd.results30, go_sem, d0, d1, d2, f0, f1, f2, hz]) rfl ⟨_, _, rfl, (((HG5.out.set (by exact HS2.out.lt) _).set (by exact HS2.out.lt) _).set (by exact HS2.out.lt) _).lower (Nat.le_trans HB0.out HS2.out.below.size), (((HG5'.out.set (by exact HS4.out.lt) _).set (by exact HS4.out.lt) _).set (by exact HS4.out.lt) _).lower (Nat.le_trans HB0.out HS4.out.below.size), ((HS5.out.below.setCell (p := ⟨w.heap.size + 1, 0, none⟩) (Nat.le_succ _) _).setCell (p := ⟨w.heap.size + 1, 1, none⟩) (Nat.le_succ _) _).setCell (p := ⟨w.heap.size + 1, 2, none⟩) (Nat.le_succ _) _⟩)

/-- Dec.Frac: z / 10^s. -/
theorem decFrac_any (z : Int) (s b0 : Nat) (u : Value) (w : World) (hu : IsNew w b0 u z.natAbs) (hb0 : b0 ≤ w.heap.size) (hs : s < 1000) (hl : (limbs z.natAbs).length < 1000) :
    Calls Tryd.prog 30 #[.agg #[.bool (decide (z < 0)), u, .int .i64 (-(s : Int))]] w fun e w' => ∃ u' v', e = .returned (.agg #[.bool (decide (z < 0)), u', v']) ∧ IsNew w' b0 u' z.natAbs ∧ IsNew w' b0 v' (10 ^ s) ∧ Below w.heap.size w w' := by
  rcases Nat.eq_zero_or_pos s with h | h
  · subst h
    exact decFrac_zero z b0 u w hu hb0 hl
  · exact decFrac_pos z s b0 u w hu hb0 h hs
end Go.Proofs.YthkmgjkajllemaaDoor.Spec

/- Frac.Round of a whole number. -/
namespace Go.Proofs.YthkmgjkajllemaaDoor.Spec
open Go.RowKit Go.Proofs.YthkmgjkajllemaaDoorW.PrintWords Go.Proofs.YthkmgjkajllemaaDoor.Num Go.Proofs.YthkmgjkajllemaaDoor.Str Go.Proofs.YthkmgjkajllemaaDoor.Nats Go.Proofs.YthkmgjkajllemaaDoor.Val Go.Proofs.YthkmgjkajllemaaDoor.Arith Go.Proofs.YthkmgjkajllemaaDoor.NatOps Go.Proofs.YthkmgjkajllemaaDoor.Make
set_option linter.unusedVariables false
set_option linter.unusedSimpArgs false

set_option maxHeartbeats 2000000 in
set_option maxRecDepth 100000 in
/-- Frac.Round of m / 1, which is not 0, to s places: exact. -/
theorem round_whole (m s : Nat) (way : Int) (u v : Value) (w : World) (hu : IsNat w u m) (hv : IsNat w v 1) (hm : 0 < m) (hml : (limbs m).length < 1000) (hs : s < 100) (hl : (limbs (m * 10 ^ s)).length < 1000) :
    Calls Tryd.prog 26 #[.agg #[.bool false, u, v], .int .i64 s, .int .i64 way] w fun e w' => ∃ r, e = .returned (.agg #[.bool false, r, .int .i64 (-(s : Int))]) ∧ IsNew w' w.heap.size r (m * 10 ^ s) ∧ Below w.heap.size w w' := by
  have hpl := limbs_length 12 (10 ^ s) (Nat.lt_of_lt_of_le (Nat.pow_lt_pow_right (by decide) hs) (by decide))
  have hpos : 0 < m * 10 ^ s := Nat.mul_pos hm (Nat.pow_pos (by decide))
  have HP := Lib.hid (fun W => pow10_any s W (by omega))
  have HM := Lib.hid (fun v' W h1 h2 => natMul_any u v' m (10 ^ s) W h1 h2 (by omega) (by omega))
  have HD := Lib.hid (fun u' W h1 h2 => natDiv_short u' v (m * 10 ^ s) 1 W h1 h2 (by omega) (by omega) (by omega) (by omega))
  have HW := Lib.hid (fun r W hr => wholeMk_any false r (m * 10 ^ s) W hr)
  rw [Nat.div_one, Nat.mod_one] at HD
  rw [show (false && decide (0 < m * 10 ^ s)) = false from rfl] at HW
  have HU := Lib.hid (fun (W : World) (hb : Below w.heap.size w W) => hu.below hb)
  have HV := Lib.hid (fun (W : World) (hb : Below w.heap.size w W) => hv.below hb)
  obtain ⟨A, c, rfl, hc, hr⟩ := hu
  obtain ⟨B, cb, rfl, hcb, hrb⟩ := hv
  have hw : IntKind.i64.wrap (-(s : Int)) = -(s : Int) := IntWalk.i64_in _ (by omega)
  have h00 : (limbs 0).length = 0 := by rw [limbs_zero]; rfl
  have HS : Hid (St w ((w.alloc (.cells #[.bool false, .slice A (limbs m).length c, .slice B (limbs 1).length cb] 45)).alloc (.cells #[.bool false, .slice none 0 0, .int .i64 0] 40))
      [(w.heap.size + 1, 0, .bool false), (w.heap.size + 1, 1, .slice none 0 0), (w.heap.size + 1, 2, .int .i64 0), (w.heap.size, 0, .bool false), (w.heap.size, 1, .slice A (limbs m).length c), (w.heap.size, 2, .slice B (limbs 1).length cb)] (w.heap.size + 1) 3) :=
    ⟨Cells.box3 (Cells.box3 (Cells.nil _) rfl _ _ _ _) (by simp) _ _ _ _, fun o _ => free_box (by simp) _ _ _, by simp, ((Below.refl _ _).alloc (Nat.le_refl _) _).alloc (by simp) _⟩
  clear hr hrb hc hcb hm hml hl hpl hpos hs
  go_enter Tryd.func26, Tryd.ntmps26
  go_wp2
  obtain ⟨W, hW⟩ : ∃ W, (w.alloc (.cells #[.bool false, .slice A (limbs m).length c, .slice B (limbs 1).length cb] 45)).alloc (.cells #[.bool false, .slice none 0 0, .int .i64 0] 40) = W := ⟨_, rfl⟩
  rw [hW] at HS ⊢
  clear hW
  obtain ⟨d0, d1, d2, a0, a1, a2, -⟩ := HS.out.cells
  go_quiet (fail)
  have HS1 := Lib.hid (fun k => HS.out.call (pw_below_drewN (n := k) (Below.refl _ W)))
  clear HS
  go_wp2_with (first | (go_at_call 57; go_must (refine (HP.out _).mono ?_); rintro e w2 ⟨r, rfl, hn, hb⟩; have HS2 := Lib.hid ((HS1.out _).call hb); have HG2 := Lib.hid hn; obtain ⟨A2, c2, rfl⟩ := hn.slice; clear hn hb) | (go_at_call 56; go_must (refine (HM.out _ _ (HU.out _ HS2.out.below) HG2.out.isNat).mono ?_); rintro e w3 ⟨r, rfl, hn, hb⟩; have HS3 := Lib.hid (HS2.out.call hb); have HG3 := Lib.hid hn; obtain ⟨A3, c3, rfl⟩ := hn.slice; clear hn hb) | (go_at_call 58; go_must (refine (HD.out _ _ HG3.out.isNat (HV.out _ HS3.out.below)).mono ?_); rintro e w4 ⟨q, r, rfl, hn, hn', hb⟩; have HS4 := Lib.hid (HS3.out.call hb); have HG4 := Lib.hid hn; obtain ⟨A4, c4, rfl⟩ := hn.slice; obtain ⟨A5, c5, rfl⟩ := hn'.slice; clear hn hn' hb))
  obtain ⟨d04, d14, d24, a04, a14, a24, -⟩ := HS4.out.cells
  go_quiet (fail)
  have HS5 := Lib.hid (fun k => HS4.out.call (pw_below_drewN (Below.refl _ w4) k))
  have HG5 := Lib.hid (fun k => HG4.out.below (pw_below_drewN (Below.refl _ w4) k))
  go_wp2_with (first | (go_at_call 62; go_must (refine (HW.out _ _ (HG5.out _).isNat).mono ?_); rintro e w5 ⟨rfl, hb⟩; have HS6 := Lib.hid ((HS5.out _).call hb); have HG6 := Lib.hid ((HG5.out _).below hb); obtain ⟨e0, e1, e2, -⟩ := HS6.out.cells; have f0 := HS6.out.free 0 (by omega); have f1 := HS6.out.free 1 (by omega); have f2 := HS6.out.free 2 (by omega); have hz := HS6.out.lt; clear hb))
  exact bodyPost_ret (v := .agg #[.bool false, .slice A4 (limbs (m * 10 ^ s)).length c4, .int .i64 (-(s : Int))]) (by simp [results, Tryd.results26, go_sem, e0, e1, e2, f0, f1, f2, hz]) rfl ⟨_, rfl, (((HG6.out.set (by exact HS3.out.lt) _).set (by exact HS3.out.lt) _).set (by exact HS3.out.lt) _).lower HS3.out.below.size, ((HS6.out.below.setCell (p := ⟨w.heap.size + 1, 0, none⟩) (Nat.le_succ _) _).setCell (p := ⟨w.heap.size + 1, 1, none⟩) (Nat.le_succ _) _).setCell (p := ⟨w.heap.size + 1, 2, none⟩) (Nat.le_succ _) _⟩
end Go.Proofs.YthkmgjkajllemaaDoor.Spec

/- Long division by limbs: plain facts on numbers, no program is in sight. -/
namespace Go.Proofs.YthkmgjkajllemaaDoor.LongDiv
open Go.RowKit Go.Proofs.YthkmgjkajllemaaDoorW.PrintWords Go.Proofs.YthkmgjkajllemaaDoor.Num Go.Proofs.YthkmgjkajllemaaDoor.Val Go.Proofs.YthkmgjkajllemaaDoor.Arith
set_option linter.unusedVariables false
set_option linter.unusedSimpArgs false

/-- One limb more of a quotient, by a divisor of any length. -/
theorem step {n b : Nat} {out : List Int} {i : Nat} (h : Short n b out (i + 1)) (hi : i < (limbs n).length) (hb : 0 < b) :
    Short n b (out.set i (((rest n (i + 1) % b * 1000000000 + rest n i % 1000000000) / b : Nat) : Int)) i ∧ (rest n (i + 1) % b * 1000000000 + rest n i % 1000000000) % b = rest n i % b ∧ (rest n (i + 1) % b * 1000000000 + rest n i % 1000000000) / b < 1000000000 := by
  have hs := rest_step n i
  have hlen := h.len
  have hmod := Nat.mod_lt (rest n (i + 1)) hb
  obtain ⟨x, hx⟩ : ∃ x, rest n i % 1000000000 = x := ⟨_, rfl⟩
  have hxl : x < 1000000000 := by omega
  obtain ⟨t, ht⟩ : ∃ t, rest n (i + 1) = t := ⟨_, rfl⟩
  have hw := h.worth
  rw [hx, ht] at hs ⊢
  rw [ht] at hmod hw
  have hdm := Nat.div_add_mod t b
  have hq : (t % b * 1000000000 + x) / b < 1000000000 := by
    rw [Nat.div_lt_iff_lt_mul hb]
    have : (t % b + 1) * 1000000000 ≤ b * 1000000000 := Nat.mul_le_mul_right _ hmod
    omega
  have hrec : rest n i = t / b * 1000000000 * b + (t % b * 1000000000 + x) := by
    rw [hs]
    generalize t / b = u at *
    generalize t % b = v at *
    subst hdm
    grind
  have hd : rest n i / b = t / b * 1000000000 + (t % b * 1000000000 + x) / b := by
    rw [hrec, Nat.mul_comm (t / b * 1000000000) b, Nat.mul_add_div hb]
  have hm : (t % b * 1000000000 + x) % b = rest n i % b := by
    rw [hrec, Nat.mul_comm (t / b * 1000000000) b, Nat.mul_add_mod]
  obtain ⟨u, hu⟩ : ∃ u, (t % b * 1000000000 + x) / b = u := ⟨_, rfl⟩
  rw [hu] at hq hd ⊢
  refine ⟨⟨by simp [hlen], h.digs.set _ (by omega) (by show _ < (1000000000 : Int); omega), ?_, fun k hk => ?_⟩, hm, hq⟩
  · rw [val_set _ _ _ (by omega), h.zero i (by omega), hw, hd, Int.pow_succ]
    generalize t / b = v
    generalize (1000000000 : Int) ^ i = P
    rw [Int.natCast_add, Int.natCast_mul]
    grind
  · rw [getD_set _ _ _ _ (by omega), if_neg (by omega)]
    exact h.zero k (by omega)
theorem start (n b : Nat) (hb : 0 < b) : Short n b (List.replicate (limbs n).length 0) (limbs n).length :=
  ⟨by simp, Digs.zeros _, by rw [val_zeros, rest_done]; simp, fun k hk => by rw [List.getD_eq_getElem?_getD, List.getElem?_replicate]; split <;> simp⟩
theorem done {n b : Nat} {out : List Int} (h : Short n b out 0) : (val out).toNat = n / b := by
  have := h.worth
  rw [rest_zero, Int.pow_zero, Int.one_mul] at this
  rw [this, Int.toNat_natCast]

/-- The guess is not too small. -/
theorem guess_ge (r y P : Nat) (hP : 0 < P) (hy : 0 < y / P) : r / y ≤ r / P / (y / P) := by
  rw [Nat.le_div_iff_mul_le hy, Nat.le_div_iff_mul_le hP]
  calc r / y * (y / P) * P = r / y * (y / P * P) := Nat.mul_assoc _ _ _
    _ ≤ r / y * y := Nat.mul_le_mul_left _ (Nat.div_mul_le_self y P)
    _ ≤ r := Nat.div_mul_le_self r y
/-- A product with a digit that is too great is too great. -/
theorem too_great (r y g : Nat) (hy : 0 < y) : r < y * g ↔ r / y < g := by
  rw [Nat.div_lt_iff_lt_mul hy, Nat.mul_comm]
theorem len_mul (m n : Nat) : (limbs (m * n)).length ≤ (limbs m).length + (limbs n).length := by
  have h1 := val_lt (digs_limbs m)
  have h2 := val_lt (digs_limbs n)
  rw [val_limbs] at h1 h2
  have h1' : m < 1000000000 ^ (limbs m).length := by
    have : (m : Int) < ((1000000000 ^ (limbs m).length : Nat) : Int) := by rw [Int.natCast_pow]; exact h1
    omega
  have h2' : n < 1000000000 ^ (limbs n).length := by
    have : (n : Int) < ((1000000000 ^ (limbs n).length : Nat) : Int) := by rw [Int.natCast_pow]; exact h2
    omega
  apply limbs_length
  rw [Nat.pow_add]
  exact Nat.mul_lt_mul'' h1' h2'
theorem len_mono {m n : Nat} (h : m ≤ n) : (limbs m).length ≤ (limbs n).length := by
  rcases Nat.lt_or_ge (limbs n).length (limbs m).length with h1 | h1
  · exact absurd (limbs_len_lt n m h1) (by omega)
  · exact h1
/-- The divisor's highest limb. -/
theorem top_pos (n : Nat) (h : 0 < (limbs n).length) : 0 < rest n ((limbs n).length - 1) ∧ rest n ((limbs n).length - 1) < 1000000000 := by
  refine ⟨(rest_pos n _).1 (by omega), ?_⟩
  have h1 := rest_done n
  have h2 := rest_step n ((limbs n).length - 1)
  rw [show (limbs n).length - 1 + 1 = (limbs n).length by omega, h1] at h2
  omega
/-- A list of a limb, and above it the limbs of a number. -/
theorem cons_val (x r : Nat) : val ((x : Int) :: limbs r) = ((r * 1000000000 + x : Nat) : Int) := by
  simp only [val, val_limbs]
  omega
theorem cons_digs (x r : Nat) (h : x < 1000000000) : Digs ((x : Int) :: limbs r) :=
  Digs.cons (by omega) (by show _ < (1000000000 : Int); omega) (digs_limbs r)
end Go.Proofs.YthkmgjkajllemaaDoor.LongDiv

/- NatDiv: the long case, by a divisor of two limbs or more. -/
namespace Go.Proofs.YthkmgjkajllemaaDoor.NatOps
open Go.RowKit Go.Proofs.YthkmgjkajllemaaDoorW.PrintWords Go.Proofs.YthkmgjkajllemaaDoorW.PrintLast Go.Proofs.YthkmgjkajllemaaDoorW.PrintMore Go.Proofs.YthkmgjkajllemaaDoor.Num Go.Proofs.YthkmgjkajllemaaDoor.Str Go.Proofs.YthkmgjkajllemaaDoor.Nats Go.Proofs.YthkmgjkajllemaaDoor.Val Go.Proofs.YthkmgjkajllemaaDoor.Arith
set_option linter.unusedVariables false
set_option linter.unusedSimpArgs false

theorem below_on {w w1 w2 : World} {b : Nat} (h : Below b w w1) (h2 : Below w1.heap.size w1 w2) (hb : b ≤ w1.heap.size) : Below b w w2 := h.trans (h2.mono hb)
theorem app_slice {e base : Nat} {ok : Nat → Prop} {w : World} {v : Value} {d : Int} {l : List Int} (h : Kd.R (Kd.int .u32) e w base ok v ([d] ++ l)) : ∃ A c, v = .slice A (l.length + 1) c := by
  obtain ⟨A, c, e1⟩ := Kd.R_slice h
  exact ⟨A, c, e1⟩
theorem nil_nat (w : World) (b : Nat) : IsNew w b (.slice none 0 0) 0 := by
  unfold IsNew
  rw [limbs_zero]
  exact V_of_R (ok := fun _ => True) (Kd.R_nil _ _ _ _ _)
/-- A limb of a number in memory. -/
theorem nat_cell {w : World} {A : Option Addr} {k c n : Nat} (h : IsNat w (.slice A k c) n) (i : Nat) (hi : i < k) : k = (limbs n).length ∧ ∃ ad, A = some ad ∧ w.cell? (ad.add i) = some (.int .u32 ((rest n i % 1000000000 : Nat) : Int)) := by
  obtain ⟨A', c', e, _, hr⟩ := h
  injection e with e1 e2 e3
  subst e1 e2
  obtain ⟨ad, e0, hc⟩ := Kd.at_int hr (i : Int) (by omega) (by omega)
  rw [rd_nat, limbs_getD, Int.toNat_natCast] at hc
  exact ⟨rfl, ad, e0, hc⟩
theorem lt_pow (n : Nat) : n < 1000000000 ^ (limbs n).length := by
  have h := val_lt (digs_limbs n)
  rw [val_limbs] at h
  have : (n : Int) < ((1000000000 ^ (limbs n).length : Nat) : Int) := by rw [Int.natCast_pow]; exact h
  omega
theorem guess_f (r y : Nat) (hy : 0 < (limbs y).length) (hr : r < y * 1000000000) (hl : (limbs y).length < 1000000) :
    ∃ g : Nat, PnatGuess.spec_natGuess.f (limbs r) (limbs y) = some (g : Int) ∧ r / y ≤ g ∧ g ≤ 999999999 := by
  obtain ⟨n, hn⟩ : ∃ n, (limbs y).length = n + 1 := ⟨(limbs y).length - 1, by omega⟩
  have ht := LongDiv.top_pos y hy
  rw [hn, Nat.add_sub_cancel] at ht
  have hr1 : (limbs r).length ≤ n + 2 := by
    have h := lt_pow y
    rw [hn] at h
    exact limbs_length (n + 2) r (by rw [Nat.pow_succ]; exact Nat.lt_of_lt_of_le hr (Nat.mul_le_mul_right _ (Nat.le_of_lt h)))
  have hrd := rest_done r
  have hs0 := rest_step r n
  have hs1 := rest_step r (n + 1)
  have hp2 := rest_pos r (n + 2)
  have hp1 := rest_pos r (n + 1)
  have hr2 : rest r (n + 1 + 1) = 0 := by
    rcases Nat.eq_zero_or_pos (rest r (n + 1 + 1)) with h | h
    · exact h
    · have := hp2.2 h; omega
  have eg := LongDiv.guess_ge r y (1000000000 ^ n) (Nat.pow_pos (by decide)) ht.1
  have hq : r / y < 1000000000 := Nat.div_lt_of_lt_mul hr
  have e1 : wrap64 (((n + 1 : Nat) : Int) - 1) = (n : Int) := by rw [w64' _ (by omega) (by omega)]; omega
  have ht0 := ht.1
  have ht1 := ht.2
  have hgy : (limbs y).getD n 0 = ((rest y n : Nat) : Int) := by rw [limbs_getD, Nat.mod_eq_of_lt ht.2]
  have hR : r / 1000000000 ^ n = rest r n := rfl
  have hY : y / 1000000000 ^ n = rest y n := rfl
  rw [hR, hY] at eg
  unfold PnatGuess.spec_natGuess.f
  rw [hn, e1]
  by_cases h1 : ((limbs r).length : Int) < ((n + 1 : Nat) : Int)
  · rw [if_pos h1]
    have hlt := limbs_len_lt r y (by omega)
    exact ⟨0, rfl, by rw [Nat.div_eq_of_lt hlt]; exact Nat.le_refl _, by omega⟩
  · rw [if_neg h1, if_pos (by omega), if_pos (by omega)]
    have fin : ∀ a : Nat, a = rest r n → ∃ g : Nat, some (mn (IntKind.u64.wrap (Int.tdiv (a : Int) ((rest y n : Nat) : Int))) 999999999) = some (g : Int) ∧ r / y ≤ g ∧ g ≤ 999999999 := by
      intro a ha
      have hb : a < 1000000000 * 1000000000 := by omega
      have hd : a / rest y n ≤ a := Nat.div_le_self _ _
      refine ⟨min (a / rest y n) 999999999, ?_, ?_, Nat.min_le_right _ _⟩
      · rw [Int.tdiv_eq_ediv_of_nonneg (by omega), ← Int.natCast_ediv]
        generalize a / rest y n = dd at *
        rw [IntWalk.u64_in (dd : Int) ⟨by omega, by omega⟩]
        unfold mn
        congr 1
        omega
      · rw [ha]
        omega
    have wy : IntKind.u64.wrap ((rest y n : Nat) : Int) = ((rest y n : Nat) : Int) := IntWalk.u64_in _ ⟨by omega, by omega⟩
    by_cases h2 : ((limbs r).length : Int) > ((n + 1 : Nat) : Int)
    · have hg1 : (limbs r).getD (n + 1) 0 = ((rest r (n + 1) : Nat) : Int) := by rw [limbs_getD, Nat.mod_eq_of_lt (by omega)]
      rw [if_pos h2, if_pos (by omega), if_pos (by omega), if_pos (by omega), rd_nat, rd_nat, rd_nat, hgy, hg1, limbs_getD, wy, if_neg (by omega)]
      have hm : rest r n % 1000000000 < 1000000000 := Nat.mod_lt _ (by decide)
      generalize rest r n % 1000000000 = lo at *
      generalize rest r (n + 1) = hi at *
      have hhi : hi < 1000000000 := by omega
      have e2 : IntKind.u64.wrap (IntKind.u64.wrap (lo : Int) + IntKind.u64.wrap (IntKind.u64.wrap (hi : Int) * 1000000000)) = ((lo + hi * 1000000000 : Nat) : Int) := by
        rw [IntWalk.u64_in (lo : Int) ⟨by omega, by omega⟩, IntWalk.u64_in (hi : Int) ⟨by omega, by omega⟩, IntWalk.u64_in ((hi : Int) * 1000000000) ⟨by omega, by omega⟩, IntWalk.u64_in ((lo : Int) + (hi : Int) * 1000000000) ⟨by omega, by omega⟩]
        omega
      rw [e2]
      exact fin _ (by omega)
    · have hz : rest r (n + 1) = 0 := by
        rcases Nat.eq_zero_or_pos (rest r (n + 1)) with h | h
        · exact h
        · have := hp1.2 h; omega
      rw [if_neg h2, if_pos (by omega), rd_nat, rd_nat, hgy, limbs_getD, wy, if_neg (by omega)]
      have hm : rest r n % 1000000000 < 1000000000 := Nat.mod_lt _ (by decide)
      generalize rest r n % 1000000000 = lo at *
      rw [IntWalk.u64_in (lo : Int) ⟨by omega, by omega⟩]
      exact fin _ (by omega)
/-- natGuess: not less than the digit. -/
theorem natGuess_any (u v : Value) (r y : Nat) (w : World) (hu : IsNat w u r) (hv : IsNat w v y) (hy : 0 < (limbs y).length) (hr : r < y * 1000000000) (hl : (limbs y).length < 1000000) :
    Calls Tryd.prog 88 #[u, v] w fun e w' => ∃ g : Nat, e = .returned (.int .u64 g) ∧ r / y ≤ g ∧ g ≤ 999999999 ∧ Below w.heap.size w w' := by
  obtain ⟨A, c, rfl, hc, hr0⟩ := hu
  obtain ⟨A', c', rfl, hc', hr'⟩ := hv
  obtain ⟨g, hf, h1, h2⟩ := guess_f r y hy hr hl
  refine (PnatGuess.spec_natGuess.calls A c _ A' c' _ _ w hr0 hc hr' hc' hf).mono ?_
  rintro e w' ⟨rfl, hb⟩
  exact ⟨g, rfl, h1, h2, hb⟩

set_option maxHeartbeats 8000000 in
set_option maxRecDepth 100000 in
theorem natDiv_long (u v : Value) (m n : Nat) (w : World) (hu : IsNat w u m) (hv : IsNat w v n) (hm : (limbs m).length < 100000) (hn : (limbs n).length < 100000) (h2 : 2 ≤ (limbs n).length) (hle : n ≤ m) :
    Calls Tryd.prog 58 #[u, v] w fun e w' => ∃ q r, e = .returned (.tuple #[q, r]) ∧ IsNew w' w.heap.size q (m / n) ∧ IsNew w' w.heap.size r (m % n) ∧ Below w.heap.size w w' := by
  have h0 : 0 < n := by
    have := (rest_pos n 0).1 (by omega)
    rwa [rest_zero] at this
  have htop := LongDiv.top_pos n (by omega)
  obtain ⟨k, hk⟩ : ∃ k, (limbs n).length = k + 1 := ⟨(limbs n).length - 1, by omega⟩
  rw [hk, Nat.add_sub_cancel] at htop
  have hgt : (limbs n).getD k 0 = ((rest n k : Nat) : Int) := by rw [limbs_getD, Nat.mod_eq_of_lt htop.2]
  obtain ⟨t, ht⟩ : ∃ t, rest n k = t := ⟨_, rfl⟩
  rw [ht] at htop hgt
  obtain ⟨b, hb⟩ : ∃ b, 1000000000 / (t + 1) = b := ⟨_, rfl⟩
  have hb0 : 0 < b := by rw [← hb]; exact Nat.div_pos (by omega) (by omega)
  have hb1 : b < 1000000000 := by rw [← hb]; exact Nat.div_lt_self (by omega) (by omega)
  have hbi : (1000000000 : Int) / ((t : Int) + 1) = (b : Int) := by rw [← hb, Int.natCast_ediv]; rfl
  have hlb := limbs_one b hb0 hb1
  have lx := LongDiv.len_mul m b
  have ly := LongDiv.len_mul n b
  rw [hlb] at lx ly
  simp only [List.length_cons, List.length_nil] at lx ly
  have HC := Lib.hid (natCmp_any u v m n w hu hv (by omega) (by omega))
  have HX := Lib.hid (fun r W h1 h2 => natMul_any u r m b W h1 h2 (by omega) (by rw [hlb]; simp))
  have HY := Lib.hid (fun r W h1 h2 => natMul_any v r n b W h1 h2 (by omega) (by rw [hlb]; simp))
  have HU := Lib.hid (fun (W : World) (hb : Below w.heap.size w W) => hu.below hb)
  have HV := Lib.hid (fun (W : World) (hb : Below w.heap.size w W) => hv.below hb)
  have hq : m * b / (n * b) = m / n := Nat.mul_div_mul_right _ _ hb0
  have hr : m * b % (n * b) / b = m % n := by rw [Nat.mul_mod_mul_right, Nat.mul_div_cancel _ hb0]
  have hxp : 0 < m * b := Nat.mul_pos (by omega) hb0
  have hyp : 0 < n * b := Nat.mul_pos h0 hb0
  rw [← hq, ← hr]
  obtain ⟨x, hx⟩ : ∃ x, m * b = x := ⟨_, rfl⟩
  obtain ⟨y, hy⟩ : ∃ y, n * b = y := ⟨_, rfl⟩
  rw [hx] at HX lx hxp
  rw [hy] at HY ly hyp
  rw [hx, hy]
  have hlx : 0 < (limbs x).length := (rest_pos x 0).2 (by rw [rest_zero]; exact hxp)
  have hly : 0 < (limbs y).length := (rest_pos y 0).2 (by rw [rest_zero]; exact hyp)
  obtain ⟨tc, htc, hg⟩ : ∃ t, cmp m n = t ∧ decide (t < 0) = false := by
    refine ⟨_, rfl, decide_eq_false ?_⟩
    unfold cmp
    split
    · omega
    · split <;> omega
  rw [htc] at HC
  have HQ := Lib.hid hq
  have HHR := Lib.hid hr
  clear hq hr
  obtain ⟨A, c, rfl, hc, hr⟩ := hu
  obtain ⟨A', c', rfl, hc', hr'⟩ := hv
  obtain ⟨ad, e0, hc0⟩ := Kd.at_int hr' (k : Int) (by omega) (by omega)
  rw [rd_nat, hgt, Int.toNat_natCast] at hc0
  subst e0
  have HCW := Lib.hid (fun w1 (hb : Below w.heap.size w w1) => pw_cell_below hb hc0)
  rw [hk] at HC HY HV ⊢
  have hk1 : 1 ≤ k := by omega
  have hkl : k < 100000 := by omega
  have hkb : (((k : Int) + 1) == 1) = false := by
    rw [beq_eq_false_iff_ne]
    omega
  have htl := htop.2
  have HLX := Lib.hid lx
  have HLY := Lib.hid ly
  have HLB := Lib.hid hlb
  clear hr hr' hc hc' hle htc hc0 htop hgt hk hlb hx hy ht hb h2 h0
  go_enter Tryd.func58, Tryd.ntmps58
  go_wp2_with (first | (go_at_call 60; go_must (refine HC.out.mono ?_); rintro e w1 ⟨rfl, hb⟩; have HB := Lib.hid hb; have c1 := HCW.out _ hb; clear hb) | ((with_reducible refine gate_dst (N := 46) rfl ?_); go_must (refine Kd.R_lit (w0 := w) (Kd.int .u32) w.heap.size 69 rfl (N := 46) rfl (xs := ([(b : Int)] : List Int)) (inner := [.int .u32 (b : Int)]) (ok := fun _ => True) (okp := fun _ => True) (by first | (go_simp; done) | (go_simp; rfl)) (Reps.one rfl (Reps.none _ _)) (fun _ hk => hk) trivial HB.out HB.out.size (by simp) ?_); intro v8 w2 ho hb hg hnw; go_must (have HO2 : Hid (IsNew w2 w.heap.size v8 b) := Lib.hid (by unfold IsNew; rw [HLB.out]; exact V_of_R ho)); go_must (have HB2 := Lib.hid hb); obtain ⟨A8, c8, rfl⟩ : ∃ A8 c8, v8 = .slice A8 1 c8 := Kd.R_slice ho; clear ho hb hg hnw) | (go_at_call 56; (with_reducible refine (HX.out _ _ (HU.out _ HB2.out) HO2.out.isNat).mono ?_); rintro e w3 ⟨xv, rfl, hn3, hb⟩; have HB3 := Lib.hid (below_on HB2.out hb HB2.out.size); have HO3 := Lib.hid (HO2.out.below hb); have HX3 := Lib.hid (hn3.lower HB2.out.size); obtain ⟨Ax, cx, rfl⟩ := hn3.slice; clear hn3 hb) | (go_at_call 56; (with_reducible refine (HY.out _ _ (HV.out _ HB3.out) HO3.out.isNat).mono ?_); rintro e w4 ⟨yv, rfl, hn4, hb⟩; have HB4 := Lib.hid (below_on HB3.out hb HB3.out.size); have HO4 := Lib.hid (HO3.out.below hb); have HX4 := Lib.hid (HX3.out.below hb); have HY4 := Lib.hid (hn4.lower HB3.out.size); obtain ⟨Ay, cy, rfl⟩ := hn4.slice; clear hn4 hb) | ((with_reducible refine gate_dst (N := 55) rfl ?_); go_must (refine Kd.R_make (w0 := w4) (Kd.int .u32) w4.heap.size 69 rfl (N := 55) rfl 25 _ _ rfl ((limbs x).length : Int) rfl rfl Tryd.underlying25 (.int .u32 0) 4 info69 rfl (by decide) (by omega) 0 (ok := fun _ => True) (okp := fun _ => True) rfl (fun _ hk => hk) trivial (by omega) (by omega) (Below.refl _ _) (Nat.le_refl _) ?_); intro qv w5 ho hb hg hnew; obtain ⟨g, cq, e1, h1, h2, _⟩ := Kd.R_form ho (by simp; omega); subst e1; rw [Int.toNat_natCast] at ho; rw [List.length_replicate] at ho; have HQ5 := Lib.hid ho; have HB5 := Lib.hid hb; have HG5 := Lib.hid h1; clear ho hb hg hnew h1 h2))
  have HXI := Lib.hid (fun (W : World) (h : Below w4.heap.size w4 W) => (HX4.out.below h).isNat)
  have HYI := Lib.hid (fun (W : World) (h : Below w4.heap.size w4 W) => (HY4.out.below h).isNat)
  have HOI := Lib.hid (fun (W : World) (h : Below w4.heap.size w4 W) => (HO4.out.below h).isNat)
  have hlb1 : 0 < 1 := Nat.one_pos
  obtain ⟨-, ad8, e8, -⟩ := nat_cell (HOI.out _ (Below.refl _ _)) 0 hlb1
  subst e8
  have hlxm : (limbs x).length < 200000 := by omega
  have hlym : (limbs y).length < 200000 := by omega
  clear c1 HB HB2 HB3 HO2 HO3 HO4 HX3 HX4 HY4 HU HV HX HY HC HCW hlb1 hkb hbi lx ly hm hn hk1 hkl htl hg
  go_loopw [5, 11] (fun v5 v11 wr => ∃ (out : List Int) (i : Nat) (z : Int), v11 = .int .i64 z ∧ Aside0 (z = (i : Int) - 1) ∧ i ≤ (limbs x).length ∧ Aside0 (Short x y out i) ∧ Aside0 (Kd.R (Kd.int .u32) 69 wr w4.heap.size (fun _ => True) (.slice (some ⟨g, 0, none⟩) (limbs x).length cq) out) ∧ Aside0 (IsNew wr (g + 1) v5 (rest x i % y)) ∧ Aside0 (Below w4.heap.size w4 wr)) (fun _ v11 _ => (intOf v11 + 1).toNat)
  case atStart => exact ⟨_, (limbs x).length, _, rfl, ⟨rfl⟩, Nat.le_refl _, ⟨LongDiv.start x y hyp⟩, ⟨HQ5.out⟩, ⟨by rw [rest_done, Nat.zero_mod]; exact nil_nat _ _⟩, ⟨HB5.out⟩⟩
  case round =>
    clear HQ5 HB5
    obtain ⟨out, i, z, rfl, HZ, hi, HS, HQr, HR, HBr⟩ := hrel
    obtain ⟨A5, c5, rfl⟩ := HR.out.slice
    by_cases hz : i = 0
    · subst hz
      obtain rfl : z = -1 := by have := HZ.out; omega
      obtain ⟨-, ad8', e8, hc8⟩ := nat_cell (HOI.out _ HBr.out) 0 Nat.one_pos
      cases e8
      rw [rest_zero, Nat.mod_eq_of_lt hb1, Addr.add_zero'] at hc8
      have HR0 := HR.out.isNat
      rw [rest_zero] at HR0 ⊢
      have hml : x % y < y := Nat.mod_lt _ hyp
      have hll := LongDiv.len_mono (Nat.le_of_lt hml)
      have HSh := Lib.hid (natShort_any _ (x % y) b wr HR0 (by omega) hb0 hb1)
      have HD := Lib.hid (LongDiv.done HS.out)
      have HTr := Lib.hid (fun W (h : Below wr.heap.size wr W) => natTrim_any w.heap.size (.slice (some ⟨g, 0, none⟩) (limbs x).length cq) out W (V_of_R (Kd.R_lower (Kd.R_below HQr.out h) HB4.out.size)) HS.out.digs (by have := HS.out.len; omega) (Nat.le_trans HB4.out.size (Nat.le_trans HBr.out.size h.size)))
      rw [HD.out] at HTr
      have HBw := Lib.hid (below_on HB4.out HBr.out HB4.out.size)
      clear HS HQr HR HR0 HZ hll hml hi
      go_wp2_with (first | (go_at_call 87; go_must (refine HSh.out.mono ?_); rintro e w6 ⟨v6, rfl, hn6, hb⟩; have HB6 := Lib.hid hb; have HN6 := Lib.hid hn6; obtain ⟨A6, c6, rfl⟩ := hn6.slice; clear hn6 hb) | (go_at_call 86; go_must (refine (HTr.out _ HB6.out).mono ?_); rintro e w7 ⟨v7, rfl, hn7, hb⟩; have HB7 := Lib.hid hb; have HN7 := Lib.hid hn7; obtain ⟨A7, c7, rfl⟩ := hn7.slice; clear hn7 hb))
      go_ret2
      exact ⟨_, _, rfl, HN7.out, (HN6.out.below HB7.out).lower HBw.out.size, below_on (below_on HBw.out HB6.out HBw.out.size) HB7.out (Nat.le_trans HBw.out.size HB6.out.size)⟩
    · obtain ⟨j, rfl⟩ : ∃ j, i = j + 1 := ⟨i - 1, by omega⟩
      obtain rfl : z = (j : Int) := by have := HZ.out; omega
      have hj : j < (limbs x).length := by omega
      obtain ⟨-, adx, e0, hcx⟩ := nat_cell (HXI.out _ HBr.out) j hj
      subst e0
      obtain ⟨hst1, hst2, hst3⟩ := LongDiv.step HS.out hj hyp
      obtain ⟨d0, hd0⟩ : ∃ d, rest x j % 1000000000 = d := ⟨_, rfl⟩
      have hd0l : d0 < 1000000000 := by rw [← hd0]; exact Nat.mod_lt _ (by decide)
      obtain ⟨s, hs⟩ : ∃ s, rest x (j + 1) % y = s := ⟨_, rfl⟩
      have hsl : s < y := by rw [← hs]; exact Nat.mod_lt _ hyp
      rw [hs] at HR ⊢
      rw [hs, hd0] at hst1 hst2 hst3
      rw [hd0] at hcx
      obtain ⟨rr, hrr⟩ : ∃ rr, s * 1000000000 + d0 = rr := ⟨_, rfl⟩
      have hrrl : rr < y * 1000000000 := by
        have : (s + 1) * 1000000000 ≤ y * 1000000000 := Nat.mul_le_mul_right _ hsl
        omega
      have hsm := LongDiv.len_mono (Nat.le_of_lt hsl)
      have hrm := LongDiv.len_mono (Nat.le_of_lt hrrl)
      have hy9 := LongDiv.len_mul y 1000000000
      have h9 := limbs_length 2 1000000000 (by decide)
      have HT := Lib.hid (fun u W hu hb => natTrim_any wr.heap.size u ((d0 : Int) :: limbs s) W hu (LongDiv.cons_digs d0 s hd0l) (by rw [List.length_cons]; omega) hb)
      rw [LongDiv.cons_val, Int.toNat_natCast, hrr] at HT
      rw [hrr] at hst1 hst2 hst3
      have HG := Lib.hid (fun u W h1 h2 => natGuess_any u (.slice Ay (limbs y).length cy) rr y W h1 h2 hly hrrl (by omega))
      have HF := Lib.hid (fun x W h => natFrom_new x W h)
      have hgl := fun gd (h : gd ≤ 999999999) => limbs_length 1 gd (by omega)
      have HM := Lib.hid (fun u gd W h1 h2 (h3 : gd ≤ 999999999) => natMul_any (.slice Ay (limbs y).length cy) u y gd W h1 h2 (by omega) (by have := hgl gd h3; omega))
      have hpl := fun gd (h : gd ≤ 999999999) => (LongDiv.len_mul y gd)
      have HCm := Lib.hid (fun u v gd W h1 h2 (h3 : gd ≤ 999999999) => natCmp_any u v (y * gd) rr W h1 h2 (by have := hpl gd h3; have := hgl gd h3; omega) (by omega))
      have HSb := Lib.hid (fun u gd W h1 h2 (h3 : gd ≤ 999999999) h4 => natSub_any u (.slice Ay (limbs y).length cy) (y * gd) y W h1 h2 (by have := hpl gd h3; have := hgl gd h3; omega) h4)
      have HSr := Lib.hid (fun u v gd W h1 h2 h3 => natSub_any u v rr (y * gd) W h1 h2 (by omega) h3)
      have HST1 := Lib.hid hst1
      have HST2 := Lib.hid hst2
      obtain ⟨_, _, e5, hc5, hr5⟩ := HR.out.isNat
      injection e5 with e5a e5b e5c
      subst e5a e5c
      have HR5 := Lib.hid hr5
      have HBq := Lib.hid (Below.refl wr.heap.size wr)
      have HGM : g < wr.heap.size := Kd.R_lt HQr.out g rfl
      have hsl5 : (limbs s).length < 300000 := by omega
      clear hr5 hc5 e5b HZ HS hst1 hst2 hd0 hs hrr hsl hsm hrm hy9 h9 hgl hpl hz hi HR
      go_wp2_with (first | ((with_reducible refine gate_dst (N := 67) rfl ?_); go_must (refine Kd.R_lit (w0 := wr) (Kd.int .u32) wr.heap.size 69 rfl (N := 67) rfl (xs := ([(d0 : Int)] : List Int)) (inner := [.int .u32 (d0 : Int)]) (ok := fun _ => True) (okp := fun _ => True) (by first | (go_simp; done) | (go_simp; rfl)) (Reps.one rfl (Reps.none _ _)) (fun _ hk => hk) trivial HBq.out HBq.out.size (by simp) ?_); intro v67 w6 ho hb hg hnw; have HO := Lib.hid ho; have HB6 := Lib.hid hb; have HR6 := Lib.hid (Kd.C_below HR5.out hb); clear ho hb hg hnw) | ((with_reducible refine gate_builtin (b := .append) (xs := #[.tmp 67, .tmp 68]) rfl ?_); at_builtin; go_must (refine Kd.R_append_rows (Kd.int .u32) (Rr := (Kd.int .u32).K w6) (w0 := wr) wr.heap.size rfl (.tmp 67) (.tmp 68) 25 69 (.int .u32 0) 4 rfl Tryd.underlying25 info69 rfl (by decide) (by omega) v67 [(d0 : Int)] (limbs s) A5 (limbs s).length c5 (fun _ => True) (fun _ => False) rfl rfl HO.out HR6.out (fun _ _ h => h) (fun _ hk => hk.elim) (fun _ _ => trivial) HB6.out HB6.out.size (by simp <;> omega) ?_); intro v69 w7 ho hb hg hat; obtain ⟨A6, c6, rfl⟩ := app_slice ho; have HO7 := Lib.hid (V_of_R ho); have HB7 := Lib.hid hb; clear ho hb hg hat) | (go_at_call 86; go_must (refine (HT.out _ _ HO7.out HB7.out.size).mono ?_); rintro e w8 ⟨r8, rfl, hn8, hb⟩; have HB8 := Lib.hid (below_on HB7.out hb HB7.out.size); have HN8 := Lib.hid hn8; obtain ⟨A8', c8', rfl⟩ := hn8.slice; clear hn8 hb) | (go_at_call 88; go_must (refine (HG.out _ _ HN8.out.isNat (HYI.out _ (below_on HBr.out HB8.out HBr.out.size))).mono ?_); rintro e w9 ⟨g0, rfl, hg0, hg1, hb⟩; have HB9 := Lib.hid (below_on HB8.out hb HB8.out.size); have HN9 := Lib.hid (HN8.out.below hb); clear hb) | (go_at_call 11; go_must (refine (HF.out g0 _ (by omega)).mono ?_); rintro e w10 ⟨v10, rfl, hn10, hb⟩; have HB10 := Lib.hid (below_on HB9.out hb HB9.out.size); have HN10 := Lib.hid (HN9.out.below hb); have HF10 := Lib.hid hn10; obtain ⟨A10, c10, rfl⟩ := hn10.slice; clear hn10 hb) | (go_at_call 56; go_must (refine (HM.out _ g0 _ (HYI.out _ (below_on HBr.out HB10.out HBr.out.size)) HF10.out.isNat hg1).mono ?_); rintro e w11 ⟨v11, rfl, hn11, hb⟩; have HB11 := Lib.hid (below_on HB10.out hb HB10.out.size); have HN11 := Lib.hid (HN10.out.below hb); have HP11 := Lib.hid (hn11.lower HB10.out.size); clear hn11 hb))
      obtain ⟨wo, rfl⟩ : ∃ wo : World, wo = wr := ⟨_, rfl⟩
      clear HR5 HR6 HO HO7 HB6 HB7 HB8 HB9 HB10 HN8 HN9 HN10 HF10 HT HG HF HM HBq hsl5 hd0l hcx
      go_loopw [12, 13] (fun v12 v13 wi => ∃ gd : Nat, v12 = .int .u64 gd ∧ Aside0 (IsNew wi wo.heap.size v13 (y * gd)) ∧ Aside0 (rr / y ≤ gd) ∧ gd ≤ 999999999 ∧ Aside0 (Below w11.heap.size w11 wi)) (fun v12 _ _ => (intOf v12).toNat)
      case atStart => exact ⟨g0, rfl, ⟨HP11.out⟩, ⟨hg0⟩, hg1, ⟨Below.refl _ _⟩⟩
      case round =>
        obtain ⟨gd, rfl, HP, hgd0, hgd1, HBi⟩ := hrel
        obtain ⟨A13, c13, rfl⟩ := HP.out.slice
        have HBa := Lib.hid (below_on HB11.out HBi.out HB11.out.size)
        have HNi := Lib.hid (HN11.out.below HBi.out)
        by_cases hgt : rr / y < gd
        · have hlt := (LongDiv.too_great rr y gd hyp).2 hgt
          have HC1 := HCm.out _ _ gd wr HP.out.isNat HNi.out.isNat hgd1
          have hc1 : cmp (y * gd) rr = 1 := by
            unfold cmp
            rw [if_neg (by omega), if_neg (by omega)]
          rw [hc1] at HC1
          have HC2 := Lib.hid HC1
          have hg3 : 1 ≤ gd := Nat.lt_of_le_of_lt (Nat.zero_le _) hgt
          have hyg : y ≤ y * gd := Nat.le_mul_of_pos_right y (by omega)
          have hyg2 : y * gd - y = y * (gd - 1) := by rw [Nat.mul_sub, Nat.mul_one]
          have HS2 := Lib.hid (fun u W h1 h2 => HSb.out u gd W h1 h2 hgd1 hyg)
          rw [hyg2] at HS2
          have HGE : Hid (rr / y ≤ gd - 1) := Lib.hid (Nat.le_sub_one_of_lt hgt)
          clear HC1 hc1 hyg hyg2 hlt hgt hgd0 HSb HSr HCm
          go_wp2_with (first | (go_at_call 60; go_must (refine HC2.out.mono ?_); rintro e w12 ⟨rfl, hb⟩; have HB12 := Lib.hid hb; have HP12 := Lib.hid (HP.out.below hb); clear hb) | (go_at_call 67; go_must (refine (HS2.out _ _ HP12.out.isNat (HYI.out _ (below_on HBr.out (below_on HBa.out HB12.out HBa.out.size) HBr.out.size))).mono ?_); rintro e w13 ⟨v13, rfl, hn13, hb⟩; have HB13 := Lib.hid (below_on HB12.out hb HB12.out.size); have HP13 := Lib.hid (hn13.lower (Nat.le_trans HBa.out.size HB12.out.size)); clear hn13 hb))
          go_roundw
          case rel => exact ⟨gd - 1, by go_num, ⟨HP13.out⟩, ⟨HGE.out⟩, by omega, ⟨below_on HBi.out HB13.out HBi.out.size⟩⟩
          case measure => simp [intOf]; omega
        · have hgd : rr / y = gd := by have := hgd0.out; omega
          have hle : y * gd ≤ rr := by rw [← hgd]; exact Nat.mul_div_le rr y
          have hsub : rr - y * gd = rest x j % y := by
            rw [← HST2.out, ← hgd]
            have := Nat.div_add_mod rr y
            omega
          obtain ⟨tc2, htc2, hg2⟩ : ∃ t, cmp (y * gd) rr = t ∧ decide (0 < t) = false := by
            refine ⟨_, rfl, decide_eq_false ?_⟩
            unfold cmp
            split
            · omega
            · rw [if_pos (by omega)]
              omega
          have HC1 := HCm.out _ _ gd wr HP.out.isNat HNi.out.isNat hgd1
          rw [htc2] at HC1
          have HC2 := Lib.hid HC1
          have HS2 := Lib.hid (fun u v W h1 h2 => HSr.out u v gd W h1 h2 hle)
          rw [hsub] at HS2
          have HST3 : Hid (Short x y (out.set j (gd : Int)) j) := by have h := HST1.out; rw [hgd] at h; exact Lib.hid h
          have HJ := Lib.hid hj
          clear HC1 htc2 hsub hle hgd hgt hgd0 HSb HSr HCm HST1 HST2
          go_wp2_with (first | (go_at_call 60; go_must (refine HC2.out.mono ?_); rintro e w12 ⟨rfl, hb⟩; have HB12 := Lib.hid (below_on HBa.out hb HBa.out.size); have HP12 := Lib.hid (HP.out.below hb); have HN12 := Lib.hid (HNi.out.below hb); clear hb) | (go_at_call 67; go_must (refine (HS2.out _ _ _ HN12.out.isNat HP12.out.isNat).mono ?_); rintro e w13 ⟨v13, rfl, hn13, hb⟩; have HB13 := Lib.hid (below_on HB12.out hb HB12.out.size); have HN13 := Lib.hid (hn13.lower (Nat.lt_of_lt_of_le HGM HB12.out.size)); go_must (have HQ13 := Kd.R_below HQr.out HB13.out); go_must (obtain ⟨hx13, hf13⟩ := Kd.R_celln 0 HQ13 (j : Int) (by omega) (by omega)); go_must (have HP13 := Kd.R_putn HQ13 (j : Int) (gd : Int)); rw [Int.toNat_natCast] at hx13 hf13 HP13; have HPU := Lib.hid HP13; clear hn13 hb HQ13 HP13))
          go_roundw
          case rel => exact ⟨_, j, _, rfl, ⟨rfl⟩, by omega, ⟨HST3.out⟩, ⟨HPU.out⟩, ⟨HN13.out.set (Nat.lt_succ_self g) _⟩, ⟨below_set (below_on HBr.out HB13.out HBr.out.size) HG5.out⟩⟩
          case measure => simp [intOf]

/-- NatDiv: quotient and remainder. -/
theorem natDiv_any (u v : Value) (m n : Nat) (w : World) (hu : IsNat w u m) (hv : IsNat w v n) (hm : (limbs m).length < 100000) (hn : (limbs n).length < 100000) (h0 : 0 < n) :
    Calls Tryd.prog 58 #[u, v] w fun e w' => ∃ q r, e = .returned (.tuple #[q, r]) ∧ IsNew w' w.heap.size q (m / n) ∧ IsNew w' w.heap.size r (m % n) ∧ Below w.heap.size w w' := by
  by_cases h1 : m < n
  · exact natDiv_less u v m n w hu hv (by omega) (by omega) h1
  · by_cases h2 : n < 1000000000
    · exact natDiv_short u v m n w hu hv (by omega) h0 h2 (by omega)
    · have h3 : 2 ≤ (limbs n).length := by
        rw [limbs_pos (by omega), limbs_pos (show 0 < n / 1000000000 by omega)]
        simp
      exact natDiv_long u v m n w hu hv hm hn h3 (by omega)
end Go.Proofs.YthkmgjkajllemaaDoor.NatOps
