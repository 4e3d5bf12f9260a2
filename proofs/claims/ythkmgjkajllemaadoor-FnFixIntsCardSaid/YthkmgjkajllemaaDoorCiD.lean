/- Lemmas and contracts of functions for the theorem of YthkmgjkajllemaaDoorCiF. -/
import Derived.Test.YthkmgjkajllemaaDoorCiC
import Derived.Test.YthkmgjkajllemaaDoorProundsx1
import Derived.Recover

/- Frac.Round: any fraction, to places behind the point, by any way of rounding. -/
namespace Go.Proofs.YthkmgjkajllemaaDoor.Spec
open Go.RowKit Go.Proofs.YthkmgjkajllemaaDoorW.PrintWords Go.Proofs.YthkmgjkajllemaaDoor.Num Go.Proofs.YthkmgjkajllemaaDoor.Str Go.Proofs.YthkmgjkajllemaaDoor.Nats Go.Proofs.YthkmgjkajllemaaDoor.Val Go.Proofs.YthkmgjkajllemaaDoor.Arith Go.Proofs.YthkmgjkajllemaaDoor.NatOps Go.Proofs.YthkmgjkajllemaaDoor.Make
set_option linter.unusedVariables false
set_option linter.unusedSimpArgs false

/-- Whether what is cut off makes the rest greater by 1. -/
def rnd (way : Int) (neg : Bool) (half : Int) (odd : Bool) : Bool := (Prounds.spec_rounds.f way neg half odd).getD false
theorem rnd_f (way : Int) (neg : Bool) (half : Int) (odd : Bool) : Prounds.spec_rounds.f way neg half odd = some (rnd way neg half odd) := by
  unfold rnd Prounds.spec_rounds.f
  repeat' split
  all_goals rfl
theorem rounds_any (way : Int) (neg : Bool) (half : Int) (odd : Bool) (w : World) :
    Calls Tryd.prog 59 #[.int .i64 way, .bool neg, .int .i64 half, .bool odd] w fun e w' => e = .returned (.bool (rnd way neg half odd)) ∧ Below w.heap.size w w' := by
  refine (Prounds.spec_rounds.calls way neg half odd _ w (rnd_f _ _ _ _)).mono ?_
  rintro e w' ⟨rfl, h2⟩
  exact ⟨rfl, h2.below⟩
/-- The quotient, rounded. -/
def rq (way : Int) (neg : Bool) (n d : Nat) : Nat := if 0 < n % d ∧ rnd way neg (cmp (n % d + n % d) d) (decide (n / d % 2 = 1)) = true then n / d + 1 else n / d

set_option maxHeartbeats 4000000 in
set_option maxRecDepth 100000 in
theorem round_zero (neg : Bool) (m d s : Nat) (way : Int) (u v : Value) (w : World) (hu : IsNat w u m) (hv : IsNat w v d) (hd : 0 < d) (hm : (limbs m).length < 1000) (hdl : (limbs d).length < 1000) (hs : s < 100) (h0 : m * 10 ^ s % d = 0) :
    Calls Tryd.prog 26 #[.agg #[.bool neg, u, v], .int .i64 s, .int .i64 way] w fun e w' => ∃ r, e = .returned (.agg #[.bool (neg && decide (0 < m * 10 ^ s / d)), r, .int .i64 (-(s : Int))]) ∧ IsNew w' w.heap.size r (m * 10 ^ s / d) ∧ Below w.heap.size w w' := by
  have hpl := limbs_length 12 (10 ^ s) (Nat.lt_of_lt_of_le (Nat.pow_lt_pow_right (by decide) hs) (by decide))
  have hml := LongDiv.len_mul m (10 ^ s)
  have hql := LongDiv.len_mono (Nat.div_le_self (m * 10 ^ s) d)
  have hrl := LongDiv.len_mono (Nat.le_of_lt (Nat.mod_lt (m * 10 ^ s) hd))
  have HP := Lib.hid (fun W => pow10_any s W (by omega))
  have HM := Lib.hid (fun v' W h1 h2 => natMul_any u v' m (10 ^ s) W h1 h2 (by omega) (by omega))
  have HD := Lib.hid (fun u' W h1 h2 => natDiv_any u' v (m * 10 ^ s) d W h1 h2 (by omega) (by omega) hd)
  have HU := Lib.hid (fun (W : World) (hb : Below w.heap.size w W) => hu.below hb)
  have HV := Lib.hid (fun (W : World) (hb : Below w.heap.size w W) => hv.below hb)
  rw [h0] at HD
  have HW := Lib.hid (fun r W hr => wholeMk_any neg r (m * 10 ^ s / d) W hr)
  generalize (neg && decide (0 < m * 10 ^ s / d)) = sg at HW ⊢
  generalize m * 10 ^ s / d = q at *
  have h00 : (limbs 0).length = 0 := by rw [limbs_zero]; rfl
  obtain ⟨A, c, rfl, hc, hr⟩ := hu
  obtain ⟨B, cb, rfl, hcb, hrb⟩ := hv
  have hw : IntKind.i64.wrap (-(s : Int)) = -(s : Int) := IntWalk.i64_in _ (by omega)
  have HS : Hid (St w ((w.alloc (.cells #[.bool neg, .slice A (limbs m).length c, .slice B (limbs d).length cb] 45)).alloc (.cells #[.bool false, .slice none 0 0, .int .i64 0] 40))
      [(w.heap.size + 1, 0, .bool false), (w.heap.size + 1, 1, .slice none 0 0), (w.heap.size + 1, 2, .int .i64 0), (w.heap.size, 0, .bool neg), (w.heap.size, 1, .slice A (limbs m).length c), (w.heap.size, 2, .slice B (limbs d).length cb)] (w.heap.size + 1) 3) :=
    ⟨Cells.box3 (Cells.box3 (Cells.nil _) rfl _ _ _ _) (by simp) _ _ _ _, fun o _ => free_box (by simp) _ _ _, by simp, ((Below.refl _ _).alloc (Nat.le_refl _) _).alloc (by simp) _⟩
  clear h0
  clear hr hrb hc hcb hm hml hpl hdl hql hrl hs hd
  go_enter Tryd.func26, Tryd.ntmps26
  go_wp2
  obtain ⟨W, hW⟩ : ∃ W, (w.alloc (.cells #[.bool neg, .slice A (limbs m).length c, .slice B (limbs d).length cb] 45)).alloc (.cells #[.bool false, .slice none 0 0, .int .i64 0] 40) = W := ⟨_, rfl⟩
  rw [hW] at HS ⊢
  clear hW
  obtain ⟨d0, d1, d2, a0, a1, a2, -⟩ := HS.out.cells
  go_quiet (fail)
  have HS1 := Lib.hid (fun k => HS.out.call (pw_below_drewN (n := k) (Below.refl _ W)))
  clear HS d0 d1 d2 a0 a1 a2
  go_wp2_with (first | (go_at_call 57; go_must (refine (HP.out _).mono ?_); rintro e w2 ⟨r, rfl, hn, hb⟩; have HS2 := Lib.hid ((HS1.out _).call hb); have HG2 := Lib.hid hn; obtain ⟨A2, c2, rfl⟩ := hn.slice; clear hn hb) | (go_at_call 56; go_must (refine (HM.out _ _ (HU.out _ HS2.out.below) HG2.out.isNat).mono ?_); rintro e w3 ⟨r, rfl, hn, hb⟩; have HS3 := Lib.hid (HS2.out.call hb); have HG3 := Lib.hid hn; obtain ⟨A3, c3, rfl⟩ := hn.slice; clear hn hb) | (go_at_call 58; go_must (refine (HD.out _ _ HG3.out.isNat (HV.out _ HS3.out.below)).mono ?_); rintro e w4 ⟨q, r, rfl, hn, hn', hb⟩; have HS4 := Lib.hid (HS3.out.call hb); have HG4 := Lib.hid hn; have HG4' := Lib.hid hn'; obtain ⟨A4, c4, rfl⟩ := hn.slice; obtain ⟨A5, c5, rfl⟩ := hn'.slice; clear hn hn' hb))
  obtain ⟨d04, d14, d24, a04, a14, a24, -⟩ := HS4.out.cells
  go_quiet (fail)
  have HS8' := Lib.hid (fun k => HS4.out.call (pw_below_drewN (Below.refl _ w4) k))
  have HG5' := Lib.hid (fun k => HG4.out.below (pw_below_drewN (Below.refl _ w4) k))
  have HLT := HS3.out.lt

  go_wp2_with (first | (go_at_call 62; go_must (refine (HW.out _ _ (HG5'.out _).isNat).mono ?_); rintro e w9 ⟨rfl, hb⟩; have HS9 := Lib.hid ((HS8'.out _).call hb); have HG9 := Lib.hid ((HG5'.out _).below hb); obtain ⟨e0, e1, e2, -⟩ := HS9.out.cells; have f0 := HS9.out.free 0 (by omega); have f1 := HS9.out.free 1 (by omega); have f2 := HS9.out.free 2 (by omega); have hz := HS9.out.lt; clear hb))
  exact bodyPost_ret (v := .agg #[.bool sg, .slice A4 (limbs q).length c4, .int .i64 (-(s : Int))]) (by simp [results, Tryd.results26, go_sem, e0, e1, e2, f0, f1, f2, hz]) rfl ⟨_, rfl, (((HG9.out.set (by exact HLT) _).set (by exact HLT) _).set (by exact HLT) _).lower HS3.out.below.size, ((HS9.out.below.setCell (p := ⟨w.heap.size + 1, 0, none⟩) (Nat.le_succ _) _).setCell (p := ⟨w.heap.size + 1, 1, none⟩) (Nat.le_succ _) _).setCell (p := ⟨w.heap.size + 1, 2, none⟩) (Nat.le_succ _) _⟩

set_option maxHeartbeats 4000000 in
set_option maxRecDepth 100000 in
theorem round_low_up (neg : Bool) (m d s : Nat) (way : Int) (u v : Value) (w : World) (hu : IsNat w u m) (hv : IsNat w v d) (hd : 0 < d) (hm : (limbs m).length < 1000) (hdl : (limbs d).length < 1000) (hs : s < 100) (h0 : 0 < m * 10 ^ s % d) (hq : m * 10 ^ s / d = 0) (hrn : rnd way neg (cmp (m * 10 ^ s % d + m * 10 ^ s % d) d) (decide (m * 10 ^ s / d % 2 = 1)) = true) :
    Calls Tryd.prog 26 #[.agg #[.bool neg, u, v], .int .i64 s, .int .i64 way] w fun e w' => ∃ r, e = .returned (.agg #[.bool (neg && decide (0 < m * 10 ^ s / d + 1)), r, .int .i64 (-(s : Int))]) ∧ IsNew w' w.heap.size r (m * 10 ^ s / d + 1) ∧ Below w.heap.size w w' := by
  have hpl := limbs_length 12 (10 ^ s) (Nat.lt_of_lt_of_le (Nat.pow_lt_pow_right (by decide) hs) (by decide))
  have hml := LongDiv.len_mul m (10 ^ s)
  have hql := LongDiv.len_mono (Nat.div_le_self (m * 10 ^ s) d)
  have hrl := LongDiv.len_mono (Nat.le_of_lt (Nat.mod_lt (m * 10 ^ s) hd))
  have HP := Lib.hid (fun W => pow10_any s W (by omega))
  have HM := Lib.hid (fun v' W h1 h2 => natMul_any u v' m (10 ^ s) W h1 h2 (by omega) (by omega))
  have HD := Lib.hid (fun u' W h1 h2 => natDiv_any u' v (m * 10 ^ s) d W h1 h2 (by omega) (by omega) hd)
  have HU := Lib.hid (fun (W : World) (hb : Below w.heap.size w W) => hu.below hb)
  have HV := Lib.hid (fun (W : World) (hb : Below w.heap.size w W) => hv.below hb)
  have hr2 := LongDiv.len_mono (show m * 10 ^ s % d + m * 10 ^ s % d ≤ d * 1000000000 by have := Nat.mod_lt (m * 10 ^ s) hd; omega)
  have hr3 := LongDiv.len_mul d 1000000000
  have hr4 := limbs_length 2 1000000000 (by decide)
  have HA := Lib.hid (fun u' W h1 => natAdd_any u' u' (m * 10 ^ s % d) (m * 10 ^ s % d) W h1 h1 (by omega) (by omega))
  have HC := Lib.hid (fun u' W h1 h2 => natCmp_any u' v (m * 10 ^ s % d + m * 10 ^ s % d) d W h1 h2 (by omega) (by omega))
  have HR := Lib.hid (fun W => rounds_any way neg (cmp (m * 10 ^ s % d + m * 10 ^ s % d) d) false W)
  rw [show decide (m * 10 ^ s / d % 2 = 1) = false by rw [hq]; rfl] at hrn
  rw [hrn] at HR
  have hlq : (limbs (m * 10 ^ s / d)).length = 0 := by rw [hq, limbs_zero]; rfl
  have hlq1 : decide ((0 : Int) < ((limbs (m * 10 ^ s / d)).length : Int)) = false := decide_eq_false (by omega)
  have hlq2 : decide (0 < (limbs (m * 10 ^ s / d)).length) = false := decide_eq_false (by omega)
  clear hlq
  have HI := Lib.hid (fun u' v' W h1 h2 => natAdd_any u' v' (m * 10 ^ s / d) 1 W h1 h2 (by omega) (by rw [limbs_one 1 (by omega) (by omega)]; simp))
  have HO := Lib.hid (fun W => one_any W)
  have HW := Lib.hid (fun r W hr => wholeMk_any neg r (m * 10 ^ s / d + 1) W hr)
  generalize (neg && decide (0 < m * 10 ^ s / d + 1)) = sg at HW ⊢
  generalize cmp (m * 10 ^ s % d + m * 10 ^ s % d) d = half at *
  generalize m * 10 ^ s / d = q at *
  generalize hr0 : m * 10 ^ s % d = r0 at *
  have hrp : 0 < (limbs r0).length := (limbs_len_pos _).2 h0
  have hrk : (limbs r0).length < 3000 := by omega
  have hqk : (limbs q).length < 3000 := by omega
  obtain ⟨A, c, rfl, hc, hr⟩ := hu
  obtain ⟨B, cb, rfl, hcb, hrb⟩ := hv
  have hw : IntKind.i64.wrap (-(s : Int)) = -(s : Int) := IntWalk.i64_in _ (by omega)
  have HS : Hid (St w ((w.alloc (.cells #[.bool neg, .slice A (limbs m).length c, .slice B (limbs d).length cb] 45)).alloc (.cells #[.bool false, .slice none 0 0, .int .i64 0] 40))
      [(w.heap.size + 1, 0, .bool false), (w.heap.size + 1, 1, .slice none 0 0), (w.heap.size + 1, 2, .int .i64 0), (w.heap.size, 0, .bool neg), (w.heap.size, 1, .slice A (limbs m).length c), (w.heap.size, 2, .slice B (limbs d).length cb)] (w.heap.size + 1) 3) :=
    ⟨Cells.box3 (Cells.box3 (Cells.nil _) rfl _ _ _ _) (by simp) _ _ _ _, fun o _ => free_box (by simp) _ _ _, by simp, ((Below.refl _ _).alloc (Nat.le_refl _) _).alloc (by simp) _⟩
  clear h0 hq hrn hr2 hr3 hr4 hr0
  clear hr hrb hc hcb hm hml hpl hdl hql hrl hs hd
  go_enter Tryd.func26, Tryd.ntmps26
  go_wp2
  obtain ⟨W, hW⟩ : ∃ W, (w.alloc (.cells #[.bool neg, .slice A (limbs m).length c, .slice B (limbs d).length cb] 45)).alloc (.cells #[.bool false, .slice none 0 0, .int .i64 0] 40) = W := ⟨_, rfl⟩
  rw [hW] at HS ⊢
  clear hW
  obtain ⟨d0, d1, d2, a0, a1, a2, -⟩ := HS.out.cells
  go_quiet (fail)
  have HS1 := Lib.hid (fun k => HS.out.call (pw_below_drewN (n := k) (Below.refl _ W)))
  clear HS d0 d1 d2 a0 a1 a2
  go_wp2_with (first | (go_at_call 57; go_must (refine (HP.out _).mono ?_); rintro e w2 ⟨r, rfl, hn, hb⟩; have HS2 := Lib.hid ((HS1.out _).call hb); have HG2 := Lib.hid hn; obtain ⟨A2, c2, rfl⟩ := hn.slice; clear hn hb) | (go_at_call 56; go_must (refine (HM.out _ _ (HU.out _ HS2.out.below) HG2.out.isNat).mono ?_); rintro e w3 ⟨r, rfl, hn, hb⟩; have HS3 := Lib.hid (HS2.out.call hb); have HG3 := Lib.hid hn; obtain ⟨A3, c3, rfl⟩ := hn.slice; clear hn hb) | (go_at_call 58; go_must (refine (HD.out _ _ HG3.out.isNat (HV.out _ HS3.out.below)).mono ?_); rintro e w4 ⟨q, r, rfl, hn, hn', hb⟩; have HS4 := Lib.hid (HS3.out.call hb); have HG4 := Lib.hid hn; have HG4' := Lib.hid hn'; obtain ⟨A4, c4, rfl⟩ := hn.slice; obtain ⟨A5, c5, rfl⟩ := hn'.slice; clear hn hn' hb))
  have HBD := Lib.hid (below_drew (Below.refl w4.heap.size w4))
  have HSD := Lib.hid (HS4.out.call HBD.out)
  have HRD := Lib.hid (HG4'.out.below HBD.out)
  have HQD := Lib.hid (HG4.out.below HBD.out)
  refine wp_region_held_drew (S := fun W' => W'.cell? ⟨w.heap.size, 0, none⟩ = some (.bool neg)) (by kernel_rfl) ?s0 (fun hHeld => ?r)
  case s0 => exact HSD.out.cells.2.2.2.1
  case r =>
    refine wpAnyH_take (i := 0) (v := ?v0) rfl (by kernel_rfl) (by kernel_rfl) (by kernel_rfl) (fun _ _ _ h => h) (Or.inl ⟨by rfl, ?y0⟩) (by assumption) ?r0
    case y0 => (intro w0 hSw; (try dsimp only at hSw); go_simp; (try with_reducible rfl))
    try simp only [List.getElem_toArray, List.getElem_cons_zero, List.getElem_cons_succ, Act.put, List.setIfInBounds_toArray, List.set_cons_zero, List.set_cons_succ]
    refine wpAnyH_take (i := 1) (v := ?v1) rfl (by kernel_rfl) (by kernel_rfl) (by kernel_rfl) (fun _ _ _ h => h) (Or.inl ⟨by rfl, ?y1⟩) (by assumption) ?r1
    case y1 => (intro w0 hSw; (try dsimp only at hSw); go_simp; (try with_reducible rfl))
    try simp only [List.getElem_toArray, List.getElem_cons_zero, List.getElem_cons_succ, Act.put, List.setIfInBounds_toArray, List.set_cons_zero, List.set_cons_succ]
    refine wpAnyH_take (i := 2) (v := ?v2) rfl (by kernel_rfl) (by kernel_rfl) (by kernel_rfl) (fun _ _ _ h => h) (Or.inl ⟨by rfl, ?y2⟩) (by assumption) ?r2
    case y2 => (intro w0 hSw; (try dsimp only at hSw); go_simp; (try with_reducible rfl))
    try simp only [List.getElem_toArray, List.getElem_cons_zero, List.getElem_cons_succ, Act.put, List.setIfInBounds_toArray, List.set_cons_zero, List.set_cons_succ]
    refine wpAnyH_take (i := 3) (v := ?v3) rfl (by kernel_rfl) (by kernel_rfl) (by kernel_rfl) (fun _ _ _ h => h) (Or.inl ⟨by rfl, ?y3⟩) (by assumption) ?r3
    case y3 => (intro w0 hSw; (try dsimp only at hSw); go_simp; (try with_reducible rfl))
    try simp only [List.getElem_toArray, List.getElem_cons_zero, List.getElem_cons_succ, Act.put, List.setIfInBounds_toArray, List.set_cons_zero, List.set_cons_succ]
    refine wpAnyH_take (i := 4) (v := ?v4) rfl (by kernel_rfl) (by kernel_rfl) (by kernel_rfl) (fun _ _ _ h => h) (Or.inl ⟨by rfl, ?y4⟩) (by assumption) ?r4
    case y4 => (intro w0 hSw; (try dsimp only at hSw); go_simp; (try with_reducible rfl))
    try simp only [List.getElem_toArray, List.getElem_cons_zero, List.getElem_cons_succ, Act.put, List.setIfInBounds_toArray, List.set_cons_zero, List.set_cons_succ]
    refine wpAnyH_take (i := 5) (v := ?v5) rfl (by kernel_rfl) (by kernel_rfl) (by kernel_rfl) (fun _ _ _ h => h) (Or.inl ⟨by rfl, ?y5⟩) (by assumption) ?r5
    case y5 => (intro w0 hSw; (try dsimp only at hSw); go_simp; (try with_reducible rfl))
    try simp only [List.getElem_toArray, List.getElem_cons_zero, List.getElem_cons_succ, Act.put, List.setIfInBounds_toArray, List.set_cons_zero, List.set_cons_succ]
    refine wpAnyH_take (i := 6) (v := ?v6) rfl (by kernel_rfl) (by kernel_rfl) (by kernel_rfl) (fun _ _ _ h => h) (Or.inl ⟨by rfl, ?y6⟩) (by assumption) ?r6
    case y6 => (intro w0 hSw; (try dsimp only at hSw); go_simp; (try with_reducible rfl))
    try simp only [List.getElem_toArray, List.getElem_cons_zero, List.getElem_cons_succ, Act.put, List.setIfInBounds_toArray, List.set_cons_zero, List.set_cons_succ]
    refine wpAnyH_take (i := 7) (v := ?v7) rfl (by kernel_rfl) (by kernel_rfl) (by kernel_rfl) (fun _ _ _ h => h) (Or.inl ⟨by rfl, ?y7⟩) (by assumption) ?r7
    case y7 => (intro w0 hSw; (try dsimp only at hSw); go_simp; (try with_reducible rfl))
    try simp only [List.getElem_toArray, List.getElem_cons_zero, List.getElem_cons_succ, Act.put, List.setIfInBounds_toArray, List.set_cons_zero, List.set_cons_succ]
    refine wpAnyH_take (i := 8) (v := ?v8) rfl (by kernel_rfl) (by kernel_rfl) (by kernel_rfl) (fun _ _ _ h => h) (Or.inl ⟨by rfl, ?y8⟩) (by assumption) ?r8
    case y8 => (intro w0 hSw; (try dsimp only at hSw); go_simp; (try with_reducible rfl))
    try simp only [List.getElem_toArray, List.getElem_cons_zero, List.getElem_cons_succ, Act.put, List.setIfInBounds_toArray, List.set_cons_zero, List.set_cons_succ]
    refine wpAnyH_take (i := 9) (v := ?v9) rfl (by kernel_rfl) (by kernel_rfl) (by kernel_rfl) (fun _ _ _ h => h) (Or.inl ⟨by rfl, ?y9⟩) (by assumption) ?r9
    case y9 => (intro w0 hSw; (try dsimp only at hSw); go_simp; (try with_reducible rfl))
    try simp only [List.getElem_toArray, List.getElem_cons_zero, List.getElem_cons_succ, Act.put, List.setIfInBounds_toArray, List.set_cons_zero, List.set_cons_succ]
    refine wpAnyH_take (i := 11) (v := ?v11) rfl (by kernel_rfl) (by kernel_rfl) (by kernel_rfl) (fun _ _ _ h => h) (Or.inl ⟨by rfl, ?y11⟩) (by assumption) ?r11
    case y11 => (intro w0 hSw; (try dsimp only at hSw); go_simp; (try with_reducible rfl))
    try simp only [List.getElem_toArray, List.getElem_cons_zero, List.getElem_cons_succ, Act.put, List.setIfInBounds_toArray, List.set_cons_zero, List.set_cons_succ]
    refine wpAnyH_take (i := 13) (v := ?v13) rfl (by kernel_rfl) (by kernel_rfl) (by kernel_rfl) (fun _ _ _ h => h) (Or.inl ⟨by rfl, ?y13⟩) (by assumption) ?r13
    case y13 => (intro w0 hSw; (try dsimp only at hSw); go_simp; (try with_reducible rfl))
    try simp only [List.getElem_toArray, List.getElem_cons_zero, List.getElem_cons_succ, Act.put, List.setIfInBounds_toArray, List.set_cons_zero, List.set_cons_succ]
    refine wpAnyH_take (i := 14) (v := ?v14) rfl (by kernel_rfl) (by kernel_rfl) (by kernel_rfl) (fun _ _ _ h => h) (Or.inl ⟨by rfl, ?y14⟩) (by assumption) ?r14
    case y14 => (intro w0 hSw; (try dsimp only at hSw); go_simp; (try with_reducible rfl))
    try simp only [List.getElem_toArray, List.getElem_cons_zero, List.getElem_cons_succ, Act.put, List.setIfInBounds_toArray, List.set_cons_zero, List.set_cons_succ]
    refine wpAnyH_take (i := 15) (v := ?v15) rfl (by kernel_rfl) (by kernel_rfl) (by kernel_rfl) (fun _ _ _ h => h) (Or.inl ⟨by rfl, ?y15⟩) (by assumption) ?r15
    case y15 => (intro w0 hSw; (try dsimp only at hSw); go_simp; (try with_reducible rfl))
    try simp only [List.getElem_toArray, List.getElem_cons_zero, List.getElem_cons_succ, Act.put, List.setIfInBounds_toArray, List.set_cons_zero, List.set_cons_succ]
    refine wpAnyH_ready (rs := [10]) (by kernel_rfl) (by simp) ?_
    refine AllReadyH.cons rfl (fun K hK => ?_) AllReadyH.nil
    go_simp
    (refine (HA.out _ _ HRD.out.isNat).mono ?_)
    rintro e w5 ⟨ra, rfl, hn, hb⟩
    have HS5 := Lib.hid (HSD.out.call hb)
    have HB5 := Lib.hid (HBD.out.trans (hb.mono HBD.out.size))
    have HG5a := Lib.hid hn
    obtain ⟨A9, c9, rfl⟩ := hn.slice
    clear hn hb
    go_wp2_with fail
    refine hK.out _ _ HS5.out.cells.2.2.2.1 (fun hHeld => ?_)
    clear hK K
    try simp only [List.getElem_toArray, List.getElem_cons_zero, List.getElem_cons_succ, Act.put, List.setIfInBounds_toArray, List.set_cons_zero, List.set_cons_succ]
    refine wpAnyH_ready (rs := [12]) (by kernel_rfl) (by simp) ?_
    refine AllReadyH.cons rfl (fun K hK => ?_) AllReadyH.nil
    go_simp
    (refine (HC.out _ _ HG5a.out.isNat (HV.out _ HS5.out.below)).mono ?_)
    rintro e w6 ⟨rfl, hb⟩
    have HS6 := Lib.hid (HS5.out.call hb)
    have HB6 := Lib.hid (HB5.out.trans (hb.mono HB5.out.size))
    clear hb
    go_wp2_with fail
    refine hK.out _ _ HS6.out.cells.2.2.2.1 (fun hHeld => ?_)
    clear hK K
    try simp only [List.getElem_toArray, List.getElem_cons_zero, List.getElem_cons_succ, Act.put, List.setIfInBounds_toArray, List.set_cons_zero, List.set_cons_succ]
    refine wpAnyH_take (i := 16) (v := ?v16) rfl (by kernel_rfl) (by kernel_rfl) (by kernel_rfl) (fun _ _ _ h => h) (Or.inl ⟨by rfl, ?y16⟩) (by assumption) ?r16
    case y16 => (intro w0 hSw; (try dsimp only at hSw); go_simp; (try with_reducible rfl))
    try simp only [List.getElem_toArray, List.getElem_cons_zero, List.getElem_cons_succ, Act.put, List.setIfInBounds_toArray, List.set_cons_zero, List.set_cons_succ]
    refine wpAnyH_take (i := 17) (v := undef) rfl (by kernel_rfl) (by kernel_rfl) (by kernel_rfl) (fun _ _ _ h => h) (Or.inr ⟨by rfl, rfl⟩) (by assumption) ?r17
    try simp only [List.getElem_toArray, List.getElem_cons_zero, List.getElem_cons_succ, Act.put, List.setIfInBounds_toArray, List.set_cons_zero, List.set_cons_succ]
    refine wpAnyH_take (i := 18) (v := undef) rfl (by kernel_rfl) (by kernel_rfl) (by kernel_rfl) (fun _ _ _ h => h) (Or.inr ⟨by rfl, rfl⟩) (by assumption) ?r18
    try simp only [List.getElem_toArray, List.getElem_cons_zero, List.getElem_cons_succ, Act.put, List.setIfInBounds_toArray, List.set_cons_zero, List.set_cons_succ]
    refine wpAnyH_take (i := 19) (v := undef) rfl (by kernel_rfl) (by kernel_rfl) (by kernel_rfl) (fun _ _ _ h => h) (Or.inr ⟨by rfl, rfl⟩) (by assumption) ?r19
    try simp only [List.getElem_toArray, List.getElem_cons_zero, List.getElem_cons_succ, Act.put, List.setIfInBounds_toArray, List.set_cons_zero, List.set_cons_succ]
    refine wpAnyH_take (i := 20) (v := undef) rfl (by kernel_rfl) (by kernel_rfl) (by kernel_rfl) (fun _ _ _ h => h) (Or.inr ⟨by rfl, rfl⟩) (by assumption) ?r20
    try simp only [List.getElem_toArray, List.getElem_cons_zero, List.getElem_cons_succ, Act.put, List.setIfInBounds_toArray, List.set_cons_zero, List.set_cons_succ]
    refine wpAnyH_take (i := 21) (v := undef) rfl (by kernel_rfl) (by kernel_rfl) (by kernel_rfl) (fun _ _ _ h => h) (Or.inr ⟨by rfl, rfl⟩) (by assumption) ?r21
    try simp only [List.getElem_toArray, List.getElem_cons_zero, List.getElem_cons_succ, Act.put, List.setIfInBounds_toArray, List.set_cons_zero, List.set_cons_succ]
    refine wpAnyH_take (i := 22) (v := ?v22) rfl (by kernel_rfl) (by kernel_rfl) (by kernel_rfl) (fun _ _ _ h => h) (Or.inl ⟨by rfl, ?y22⟩) (by assumption) ?r22
    case y22 => (intro w0 hSw; (try dsimp only at hSw); go_simp; (try with_reducible rfl))
    try simp only [List.getElem_toArray, List.getElem_cons_zero, List.getElem_cons_succ, Act.put, List.setIfInBounds_toArray, List.set_cons_zero, List.set_cons_succ]
    refine wpAnyH_ready (rs := [23]) (by kernel_rfl) (by simp) ?_
    refine AllReadyH.cons rfl (fun K hK => ?_) AllReadyH.nil
    go_simp
    (refine (HR.out _).mono ?_)
    rintro e w7 ⟨rfl, hb⟩
    have HS7 := Lib.hid (HS6.out.call hb)
    have HB7 := Lib.hid (HB6.out.trans (hb.mono HB6.out.size))
    clear hb
    go_wp2_with fail
    refine hK.out _ _ HS7.out.cells.2.2.2.1 (fun hHeld => ?_)
    clear hK K
    try simp only [List.getElem_toArray, List.getElem_cons_zero, List.getElem_cons_succ, Act.put, List.setIfInBounds_toArray, List.set_cons_zero, List.set_cons_succ]
    refine wpAnyH_take (i := 24) (v := ?v24) rfl (by kernel_rfl) (by kernel_rfl) (by kernel_rfl) (fun _ _ _ h => h) (Or.inl ⟨by rfl, ?y24⟩) (by assumption) ?r24
    case y24 => (intro w0 hSw; (try dsimp only at hSw); go_simp; (try with_reducible rfl))
    try simp only [List.getElem_toArray, List.getElem_cons_zero, List.getElem_cons_succ, Act.put, List.setIfInBounds_toArray, List.set_cons_zero, List.set_cons_succ]
    refine wpAnyH_done (by kernel_rfl) ?_ _
    all_goals (have HQ7 := Lib.hid (HG4.out.below HB7.out); have HLT := Lib.hid HS3.out.lt; have HLE := Lib.hid HS3.out.below.size; obtain ⟨d07, d17, d27, a07, a17, a27, -⟩ := HS7.out.cells)
    all_goals (go_wp2_with (first | (go_at_call 55; go_must (refine (HO.out _).mono ?_); rintro e w7a ⟨r, rfl, hn, hb⟩; have HS7a := Lib.hid (HS7.out.call hb); have HQ7a := Lib.hid (HQ7.out.below hb); have HO7 := Lib.hid hn; obtain ⟨Ao, co, rfl⟩ := hn.slice; clear hn hb) | (go_at_call 61; go_must (refine (HI.out _ _ _ HQ7a.out.isNat HO7.out.isNat).mono ?_); rintro e w8 ⟨r, rfl, hn, hb⟩; have HS8 := Lib.hid (HS7a.out.call hb); have HG5 := Lib.hid hn; obtain ⟨d08, d18, d28, a08, a18, a28, -⟩ := HS8.out.cells; have HLT8 := Lib.hid HS7a.out.lt; have HLE8 := Lib.hid HS7a.out.below.size; obtain ⟨Aq, cq, rfl⟩ := hn.slice; clear hn hb) | (go_at_call 62; go_must (refine (HW.out _ _ HG5.out.isNat).mono ?_); rintro e w9 ⟨rfl, hb⟩; have HS9 := Lib.hid (HS8.out.call hb); have HG9 := Lib.hid (HG5.out.below hb); obtain ⟨e0, e1, e2, -⟩ := HS9.out.cells; have f0 := HS9.out.free 0 (by omega); have f1 := HS9.out.free 1 (by omega); have f2 := HS9.out.free 2 (by omega); have hz := HS9.out.lt; clear hb)))
    all_goals exact bodyPost_ret (v := .agg #[.bool sg, .slice Aq (limbs (q + 1)).length cq, .int .i64 (-(s : Int))]) (by simp [results, Tryd.results26, go_sem, e0, e1, e2, f0, f1, f2, hz]) rfl ⟨_, rfl, (((HG9.out.set (by exact HLT8.out) _).set (by exact HLT8.out) _).set (by exact HLT8.out) _).lower HLE8.out, ((HS9.out.below.setCell (p := ⟨w.heap.size + 1, 0, none⟩) (Nat.le_succ _) _).setCell (p := ⟨w.heap.size + 1, 1, none⟩) (Nat.le_succ _) _).setCell (p := ⟨w.heap.size + 1, 2, none⟩) (Nat.le_succ _) _⟩

set_option maxHeartbeats 4000000 in
set_option maxRecDepth 100000 in
theorem round_low_stay (neg : Bool) (m d s : Nat) (way : Int) (u v : Value) (w : World) (hu : IsNat w u m) (hv : IsNat w v d) (hd : 0 < d) (hm : (limbs m).length < 1000) (hdl : (limbs d).length < 1000) (hs : s < 100) (h0 : 0 < m * 10 ^ s % d) (hq : m * 10 ^ s / d = 0) (hrn : rnd way neg (cmp (m * 10 ^ s % d + m * 10 ^ s % d) d) (decide (m * 10 ^ s / d % 2 = 1)) = false) :
    Calls Tryd.prog 26 #[.agg #[.bool neg, u, v], .int .i64 s, .int .i64 way] w fun e w' => ∃ r, e = .returned (.agg #[.bool (neg && decide (0 < m * 10 ^ s / d)), r, .int .i64 (-(s : Int))]) ∧ IsNew w' w.heap.size r (m * 10 ^ s / d) ∧ Below w.heap.size w w' := by
  have hpl := limbs_length 12 (10 ^ s) (Nat.lt_of_lt_of_le (Nat.pow_lt_pow_right (by decide) hs) (by decide))
  have hml := LongDiv.len_mul m (10 ^ s)
  have hql := LongDiv.len_mono (Nat.div_le_self (m * 10 ^ s) d)
  have hrl := LongDiv.len_mono (Nat.le_of_lt (Nat.mod_lt (m * 10 ^ s) hd))
  have HP := Lib.hid (fun W => pow10_any s W (by omega))
  have HM := Lib.hid (fun v' W h1 h2 => natMul_any u v' m (10 ^ s) W h1 h2 (by omega) (by omega))
  have HD := Lib.hid (fun u' W h1 h2 => natDiv_any u' v (m * 10 ^ s) d W h1 h2 (by omega) (by omega) hd)
  have HU := Lib.hid (fun (W : World) (hb : Below w.heap.size w W) => hu.below hb)
  have HV := Lib.hid (fun (W : World) (hb : Below w.heap.size w W) => hv.below hb)
  have hr2 := LongDiv.len_mono (show m * 10 ^ s % d + m * 10 ^ s % d ≤ d * 1000000000 by have := Nat.mod_lt (m * 10 ^ s) hd; omega)
  have hr3 := LongDiv.len_mul d 1000000000
  have hr4 := limbs_length 2 1000000000 (by decide)
  have HA := Lib.hid (fun u' W h1 => natAdd_any u' u' (m * 10 ^ s % d) (m * 10 ^ s % d) W h1 h1 (by omega) (by omega))
  have HC := Lib.hid (fun u' W h1 h2 => natCmp_any u' v (m * 10 ^ s % d + m * 10 ^ s % d) d W h1 h2 (by omega) (by omega))
  have HR := Lib.hid (fun W => rounds_any way neg (cmp (m * 10 ^ s % d + m * 10 ^ s % d) d) false W)
  rw [show decide (m * 10 ^ s / d % 2 = 1) = false by rw [hq]; rfl] at hrn
  rw [hrn] at HR
  have hlq : (limbs (m * 10 ^ s / d)).length = 0 := by rw [hq, limbs_zero]; rfl
  have hlq1 : decide ((0 : Int) < ((limbs (m * 10 ^ s / d)).length : Int)) = false := decide_eq_false (by omega)
  have hlq2 : decide (0 < (limbs (m * 10 ^ s / d)).length) = false := decide_eq_false (by omega)
  clear hlq
  have HW := Lib.hid (fun r W hr => wholeMk_any neg r (m * 10 ^ s / d) W hr)
  generalize (neg && decide (0 < m * 10 ^ s / d)) = sg at HW ⊢
  generalize cmp (m * 10 ^ s % d + m * 10 ^ s % d) d = half at *
  generalize m * 10 ^ s / d = q at *
  generalize hr0 : m * 10 ^ s % d = r0 at *
  have hrp : 0 < (limbs r0).length := (limbs_len_pos _).2 h0
  have hrk : (limbs r0).length < 3000 := by omega
  have hqk : (limbs q).length < 3000 := by omega
  obtain ⟨A, c, rfl, hc, hr⟩ := hu
  obtain ⟨B, cb, rfl, hcb, hrb⟩ := hv
  have hw : IntKind.i64.wrap (-(s : Int)) = -(s : Int) := IntWalk.i64_in _ (by omega)
  have HS : Hid (St w ((w.alloc (.cells #[.bool neg, .slice A (limbs m).length c, .slice B (limbs d).length cb] 45)).alloc (.cells #[.bool false, .slice none 0 0, .int .i64 0] 40))
      [(w.heap.size + 1, 0, .bool false), (w.heap.size + 1, 1, .slice none 0 0), (w.heap.size + 1, 2, .int .i64 0), (w.heap.size, 0, .bool neg), (w.heap.size, 1, .slice A (limbs m).length c), (w.heap.size, 2, .slice B (limbs d).length cb)] (w.heap.size + 1) 3) :=
    ⟨Cells.box3 (Cells.box3 (Cells.nil _) rfl _ _ _ _) (by simp) _ _ _ _, fun o _ => free_box (by simp) _ _ _, by simp, ((Below.refl _ _).alloc (Nat.le_refl _) _).alloc (by simp) _⟩
  clear h0 hq hrn hr2 hr3 hr4 hr0
  clear hr hrb hc hcb hm hml hpl hdl hql hrl hs hd
  go_enter Tryd.func26, Tryd.ntmps26
  go_wp2
  obtain ⟨W, hW⟩ : ∃ W, (w.alloc (.cells #[.bool neg, .slice A (limbs m).length c, .slice B (limbs d).length cb] 45)).alloc (.cells #[.bool false, .slice none 0 0, .int .i64 0] 40) = W := ⟨_, rfl⟩
  rw [hW] at HS ⊢
  clear hW
  obtain ⟨d0, d1, d2, a0, a1, a2, -⟩ := HS.out.cells
  go_quiet (fail)
  have HS1 := Lib.hid (fun k => HS.out.call (pw_below_drewN (n := k) (Below.refl _ W)))
  clear HS d0 d1 d2 a0 a1 a2
  go_wp2_with (first | (go_at_call 57; go_must (refine (HP.out _).mono ?_); rintro e w2 ⟨r, rfl, hn, hb⟩; have HS2 := Lib.hid ((HS1.out _).call hb); have HG2 := Lib.hid hn; obtain ⟨A2, c2, rfl⟩ := hn.slice; clear hn hb) | (go_at_call 56; go_must (refine (HM.out _ _ (HU.out _ HS2.out.below) HG2.out.isNat).mono ?_); rintro e w3 ⟨r, rfl, hn, hb⟩; have HS3 := Lib.hid (HS2.out.call hb); have HG3 := Lib.hid hn; obtain ⟨A3, c3, rfl⟩ := hn.slice; clear hn hb) | (go_at_call 58; go_must (refine (HD.out _ _ HG3.out.isNat (HV.out _ HS3.out.below)).mono ?_); rintro e w4 ⟨q, r, rfl, hn, hn', hb⟩; have HS4 := Lib.hid (HS3.out.call hb); have HG4 := Lib.hid hn; have HG4' := Lib.hid hn'; obtain ⟨A4, c4, rfl⟩ := hn.slice; obtain ⟨A5, c5, rfl⟩ := hn'.slice; clear hn hn' hb))
  have HBD := Lib.hid (below_drew (Below.refl w4.heap.size w4))
  have HSD := Lib.hid (HS4.out.call HBD.out)
  have HRD := Lib.hid (HG4'.out.below HBD.out)
  have HQD := Lib.hid (HG4.out.below HBD.out)
  refine wp_region_held_drew (S := fun W' => W'.cell? ⟨w.heap.size, 0, none⟩ = some (.bool neg)) (by kernel_rfl) ?s0 (fun hHeld => ?r)
  case s0 => exact HSD.out.cells.2.2.2.1
  case r =>
    refine wpAnyH_take (i := 0) (v := ?v0) rfl (by kernel_rfl) (by kernel_rfl) (by kernel_rfl) (fun _ _ _ h => h) (Or.inl ⟨by rfl, ?y0⟩) (by assumption) ?r0
    case y0 => (intro w0 hSw; (try dsimp only at hSw); go_simp; (try with_reducible rfl))
    try simp only [List.getElem_toArray, List.getElem_cons_zero, List.getElem_cons_succ, Act.put, List.setIfInBounds_toArray, List.set_cons_zero, List.set_cons_succ]
    refine wpAnyH_take (i := 1) (v := ?v1) rfl (by kernel_rfl) (by kernel_rfl) (by kernel_rfl) (fun _ _ _ h => h) (Or.inl ⟨by rfl, ?y1⟩) (by assumption) ?r1
    case y1 => (intro w0 hSw; (try dsimp only at hSw); go_simp; (try with_reducible rfl))
    try simp only [List.getElem_toArray, List.getElem_cons_zero, List.getElem_cons_succ, Act.put, List.setIfInBounds_toArray, List.set_cons_zero, List.set_cons_succ]
    refine wpAnyH_take (i := 2) (v := ?v2) rfl (by kernel_rfl) (by kernel_rfl) (by kernel_rfl) (fun _ _ _ h => h) (Or.inl ⟨by rfl, ?y2⟩) (by assumption) ?r2
    case y2 => (intro w0 hSw; (try dsimp only at hSw); go_simp; (try with_reducible rfl))
    try simp only [List.getElem_toArray, List.getElem_cons_zero, List.getElem_cons_succ, Act.put, List.setIfInBounds_toArray, List.set_cons_zero, List.set_cons_succ]
    refine wpAnyH_take (i := 3) (v := ?v3) rfl (by kernel_rfl) (by kernel_rfl) (by kernel_rfl) (fun _ _ _ h => h) (Or.inl ⟨by rfl, ?y3⟩) (by assumption) ?r3
    case y3 => (intro w0 hSw; (try dsimp only at hSw); go_simp; (try with_reducible rfl))
    try simp only [List.getElem_toArray, List.getElem_cons_zero, List.getElem_cons_succ, Act.put, List.setIfInBounds_toArray, List.set_cons_zero, List.set_cons_succ]
    refine wpAnyH_take (i := 4) (v := ?v4) rfl (by kernel_rfl) (by kernel_rfl) (by kernel_rfl) (fun _ _ _ h => h) (Or.inl ⟨by rfl, ?y4⟩) (by assumption) ?r4
    case y4 => (intro w0 hSw; (try dsimp only at hSw); go_simp; (try with_reducible rfl))
    try simp only [List.getElem_toArray, List.getElem_cons_zero, List.getElem_cons_succ, Act.put, List.setIfInBounds_toArray, List.set_cons_zero, List.set_cons_succ]
    refine wpAnyH_take (i := 5) (v := ?v5) rfl (by kernel_rfl) (by kernel_rfl) (by kernel_rfl) (fun _ _ _ h => h) (Or.inl ⟨by rfl, ?y5⟩) (by assumption) ?r5
    case y5 => (intro w0 hSw; (try dsimp only at hSw); go_simp; (try with_reducible rfl))
    try simp only [List.getElem_toArray, List.getElem_cons_zero, List.getElem_cons_succ, Act.put, List.setIfInBounds_toArray, List.set_cons_zero, List.set_cons_succ]
    refine wpAnyH_take (i := 6) (v := ?v6) rfl (by kernel_rfl) (by kernel_rfl) (by kernel_rfl) (fun _ _ _ h => h) (Or.inl ⟨by rfl, ?y6⟩) (by assumption) ?r6
    case y6 => (intro w0 hSw; (try dsimp only at hSw); go_simp; (try with_reducible rfl))
    try simp only [List.getElem_toArray, List.getElem_cons_zero, List.getElem_cons_succ, Act.put, List.setIfInBounds_toArray, List.set_cons_zero, List.set_cons_succ]
    refine wpAnyH_take (i := 7) (v := ?v7) rfl (by kernel_rfl) (by kernel_rfl) (by kernel_rfl) (fun _ _ _ h => h) (Or.inl ⟨by rfl, ?y7⟩) (by assumption) ?r7
    case y7 => (intro w0 hSw; (try dsimp only at hSw); go_simp; (try with_reducible rfl))
    try simp only [List.getElem_toArray, List.getElem_cons_zero, List.getElem_cons_succ, Act.put, List.setIfInBounds_toArray, List.set_cons_zero, List.set_cons_succ]
    refine wpAnyH_take (i := 8) (v := ?v8) rfl (by kernel_rfl) (by kernel_rfl) (by kernel_rfl) (fun _ _ _ h => h) (Or.inl ⟨by rfl, ?y8⟩) (by assumption) ?r8
    case y8 => (intro w0 hSw; (try dsimp only at hSw); go_simp; (try with_reducible rfl))
    try simp only [List.getElem_toArray, List.getElem_cons_zero, List.getElem_cons_succ, Act.put, List.setIfInBounds_toArray, List.set_cons_zero, List.set_cons_succ]
    refine wpAnyH_take (i := 9) (v := ?v9) rfl (by kernel_rfl) (by kernel_rfl) (by kernel_rfl) (fun _ _ _ h => h) (Or.inl ⟨by rfl, ?y9⟩) (by assumption) ?r9
    case y9 => (intro w0 hSw; (try dsimp only at hSw); go_simp; (try with_reducible rfl))
    try simp only [List.getElem_toArray, List.getElem_cons_zero, List.getElem_cons_succ, Act.put, List.setIfInBounds_toArray, List.set_cons_zero, List.set_cons_succ]
    refine wpAnyH_take (i := 11) (v := ?v11) rfl (by kernel_rfl) (by kernel_rfl) (by kernel_rfl) (fun _ _ _ h => h) (Or.inl ⟨by rfl, ?y11⟩) (by assumption) ?r11
    case y11 => (intro w0 hSw; (try dsimp only at hSw); go_simp; (try with_reducible rfl))
    try simp only [List.getElem_toArray, List.getElem_cons_zero, List.getElem_cons_succ, Act.put, List.setIfInBounds_toArray, List.set_cons_zero, List.set_cons_succ]
    refine wpAnyH_take (i := 13) (v := ?v13) rfl (by kernel_rfl) (by kernel_rfl) (by kernel_rfl) (fun _ _ _ h => h) (Or.inl ⟨by rfl, ?y13⟩) (by assumption) ?r13
    case y13 => (intro w0 hSw; (try dsimp only at hSw); go_simp; (try with_reducible rfl))
    try simp only [List.getElem_toArray, List.getElem_cons_zero, List.getElem_cons_succ, Act.put, List.setIfInBounds_toArray, List.set_cons_zero, List.set_cons_succ]
    refine wpAnyH_take (i := 14) (v := ?v14) rfl (by kernel_rfl) (by kernel_rfl) (by kernel_rfl) (fun _ _ _ h => h) (Or.inl ⟨by rfl, ?y14⟩) (by assumption) ?r14
    case y14 => (intro w0 hSw; (try dsimp only at hSw); go_simp; (try with_reducible rfl))
    try simp only [List.getElem_toArray, List.getElem_cons_zero, List.getElem_cons_succ, Act.put, List.setIfInBounds_toArray, List.set_cons_zero, List.set_cons_succ]
    refine wpAnyH_take (i := 15) (v := ?v15) rfl (by kernel_rfl) (by kernel_rfl) (by kernel_rfl) (fun _ _ _ h => h) (Or.inl ⟨by rfl, ?y15⟩) (by assumption) ?r15
    case y15 => (intro w0 hSw; (try dsimp only at hSw); go_simp; (try with_reducible rfl))
    try simp only [List.getElem_toArray, List.getElem_cons_zero, List.getElem_cons_succ, Act.put, List.setIfInBounds_toArray, List.set_cons_zero, List.set_cons_succ]
    refine wpAnyH_ready (rs := [10]) (by kernel_rfl) (by simp) ?_
    refine AllReadyH.cons rfl (fun K hK => ?_) AllReadyH.nil
    go_simp
    (refine (HA.out _ _ HRD.out.isNat).mono ?_)
    rintro e w5 ⟨ra, rfl, hn, hb⟩
    have HS5 := Lib.hid (HSD.out.call hb)
    have HB5 := Lib.hid (HBD.out.trans (hb.mono HBD.out.size))
    have HG5a := Lib.hid hn
    obtain ⟨A9, c9, rfl⟩ := hn.slice
    clear hn hb
    go_wp2_with fail
    refine hK.out _ _ HS5.out.cells.2.2.2.1 (fun hHeld => ?_)
    clear hK K
    try simp only [List.getElem_toArray, List.getElem_cons_zero, List.getElem_cons_succ, Act.put, List.setIfInBounds_toArray, List.set_cons_zero, List.set_cons_succ]
    refine wpAnyH_ready (rs := [12]) (by kernel_rfl) (by simp) ?_
    refine AllReadyH.cons rfl (fun K hK => ?_) AllReadyH.nil
    go_simp
    (refine (HC.out _ _ HG5a.out.isNat (HV.out _ HS5.out.below)).mono ?_)
    rintro e w6 ⟨rfl, hb⟩
    have HS6 := Lib.hid (HS5.out.call hb)
    have HB6 := Lib.hid (HB5.out.trans (hb.mono HB5.out.size))
    clear hb
    go_wp2_with fail
    refine hK.out _ _ HS6.out.cells.2.2.2.1 (fun hHeld => ?_)
    clear hK K
    try simp only [List.getElem_toArray, List.getElem_cons_zero, List.getElem_cons_succ, Act.put, List.setIfInBounds_toArray, List.set_cons_zero, List.set_cons_succ]
    refine wpAnyH_take (i := 16) (v := ?v16) rfl (by kernel_rfl) (by kernel_rfl) (by kernel_rfl) (fun _ _ _ h => h) (Or.inl ⟨by rfl, ?y16⟩) (by assumption) ?r16
    case y16 => (intro w0 hSw; (try dsimp only at hSw); go_simp; (try with_reducible rfl))
    try simp only [List.getElem_toArray, List.getElem_cons_zero, List.getElem_cons_succ, Act.put, List.setIfInBounds_toArray, List.set_cons_zero, List.set_cons_succ]
    refine wpAnyH_take (i := 17) (v := undef) rfl (by kernel_rfl) (by kernel_rfl) (by kernel_rfl) (fun _ _ _ h => h) (Or.inr ⟨by rfl, rfl⟩) (by assumption) ?r17
    try simp only [List.getElem_toArray, List.getElem_cons_zero, List.getElem_cons_succ, Act.put, List.setIfInBounds_toArray, List.set_cons_zero, List.set_cons_succ]
    refine wpAnyH_take (i := 18) (v := undef) rfl (by kernel_rfl) (by kernel_rfl) (by kernel_rfl) (fun _ _ _ h => h) (Or.inr ⟨by rfl, rfl⟩) (by assumption) ?r18
    try simp only [List.getElem_toArray, List.getElem_cons_zero, List.getElem_cons_succ, Act.put, List.setIfInBounds_toArray, List.set_cons_zero, List.set_cons_succ]
    refine wpAnyH_take (i := 19) (v := undef) rfl (by kernel_rfl) (by kernel_rfl) (by kernel_rfl) (fun _ _ _ h => h) (Or.inr ⟨by rfl, rfl⟩) (by assumption) ?r19
    try simp only [List.getElem_toArray, List.getElem_cons_zero, List.getElem_cons_succ, Act.put, List.setIfInBounds_toArray, List.set_cons_zero, List.set_cons_succ]
    refine wpAnyH_take (i := 20) (v := undef) rfl (by kernel_rfl) (by kernel_rfl) (by kernel_rfl) (fun _ _ _ h => h) (Or.inr ⟨by rfl, rfl⟩) (by assumption) ?r20
    try simp only [List.getElem_toArray, List.getElem_cons_zero, List.getElem_cons_succ, Act.put, List.setIfInBounds_toArray, List.set_cons_zero, List.set_cons_succ]
    refine wpAnyH_take (i := 21) (v := undef) rfl (by kernel_rfl) (by kernel_rfl) (by kernel_rfl) (fun _ _ _ h => h) (Or.inr ⟨by rfl, rfl⟩) (by assumption) ?r21
    try simp only [List.getElem_toArray, List.getElem_cons_zero, List.getElem_cons_succ, Act.put, List.setIfInBounds_toArray, List.set_cons_zero, List.set_cons_succ]
    refine wpAnyH_take (i := 22) (v := ?v22) rfl (by kernel_rfl) (by kernel_rfl) (by kernel_rfl) (fun _ _ _ h => h) (Or.inl ⟨by rfl, ?y22⟩) (by assumption) ?r22
    case y22 => (intro w0 hSw; (try dsimp only at hSw); go_simp; (try with_reducible rfl))
    try simp only [List.getElem_toArray, List.getElem_cons_zero, List.getElem_cons_succ, Act.put, List.setIfInBounds_toArray, List.set_cons_zero, List.set_cons_succ]
    refine wpAnyH_ready (rs := [23]) (by kernel_rfl) (by simp) ?_
    refine AllReadyH.cons rfl (fun K hK => ?_) AllReadyH.nil
    go_simp
    (refine (HR.out _).mono ?_)
    rintro e w7 ⟨rfl, hb⟩
    have HS7 := Lib.hid (HS6.out.call hb)
    have HB7 := Lib.hid (HB6.out.trans (hb.mono HB6.out.size))
    clear hb
    go_wp2_with fail
    refine hK.out _ _ HS7.out.cells.2.2.2.1 (fun hHeld => ?_)
    clear hK K
    try simp only [List.getElem_toArray, List.getElem_cons_zero, List.getElem_cons_succ, Act.put, List.setIfInBounds_toArray, List.set_cons_zero, List.set_cons_succ]
    refine wpAnyH_take (i := 24) (v := ?v24) rfl (by kernel_rfl) (by kernel_rfl) (by kernel_rfl) (fun _ _ _ h => h) (Or.inl ⟨by rfl, ?y24⟩) (by assumption) ?r24
    case y24 => (intro w0 hSw; (try dsimp only at hSw); go_simp; (try with_reducible rfl))
    try simp only [List.getElem_toArray, List.getElem_cons_zero, List.getElem_cons_succ, Act.put, List.setIfInBounds_toArray, List.set_cons_zero, List.set_cons_succ]
    refine wpAnyH_done (by kernel_rfl) ?_ _
    all_goals (have HQ7 := Lib.hid (HG4.out.below HB7.out); have HLT := Lib.hid HS3.out.lt; have HLE := Lib.hid HS3.out.below.size; obtain ⟨d07, d17, d27, a07, a17, a27, -⟩ := HS7.out.cells)
    all_goals go_wp2_with (first | (go_at_call 62; go_must (refine (HW.out _ _ HQ7.out.isNat).mono ?_); rintro e w9 ⟨rfl, hb⟩; have HS9 := Lib.hid (HS7.out.call hb); have HG9 := Lib.hid (HQ7.out.below hb); obtain ⟨e0, e1, e2, -⟩ := HS9.out.cells; have f0 := HS9.out.free 0 (by omega); have f1 := HS9.out.free 1 (by omega); have f2 := HS9.out.free 2 (by omega); have hz := HS9.out.lt; clear hb))
    all_goals exact bodyPost_ret (v := .agg #[.bool sg, .slice A4 (limbs q).length c4, .int .i64 (-(s : Int))]) (by simp [results, Tryd.results26, go_sem, e0, e1, e2, f0, f1, f2, hz]) rfl ⟨_, rfl, (((HG9.out.set (by exact HLT.out) _).set (by exact HLT.out) _).set (by exact HLT.out) _).lower HLE.out, ((HS9.out.below.setCell (p := ⟨w.heap.size + 1, 0, none⟩) (Nat.le_succ _) _).setCell (p := ⟨w.heap.size + 1, 1, none⟩) (Nat.le_succ _) _).setCell (p := ⟨w.heap.size + 1, 2, none⟩) (Nat.le_succ _) _⟩

set_option maxHeartbeats 4000000 in
set_option maxRecDepth 100000 in
theorem round_up (neg : Bool) (m d s : Nat) (way : Int) (u v : Value) (w : World) (hu : IsNat w u m) (hv : IsNat w v d) (hd : 0 < d) (hm : (limbs m).length < 1000) (hdl : (limbs d).length < 1000) (hs : s < 100) (h0 : 0 < m * 10 ^ s % d) (hq : 0 < m * 10 ^ s / d) (hrn : rnd way neg (cmp (m * 10 ^ s % d + m * 10 ^ s % d) d) (decide (m * 10 ^ s / d % 2 = 1)) = true) :
    Calls Tryd.prog 26 #[.agg #[.bool neg, u, v], .int .i64 s, .int .i64 way] w fun e w' => ∃ r, e = .returned (.agg #[.bool (neg && decide (0 < m * 10 ^ s / d + 1)), r, .int .i64 (-(s : Int))]) ∧ IsNew w' w.heap.size r (m * 10 ^ s / d + 1) ∧ Below w.heap.size w w' := by
  have hpl := limbs_length 12 (10 ^ s) (Nat.lt_of_lt_of_le (Nat.pow_lt_pow_right (by decide) hs) (by decide))
  have hml := LongDiv.len_mul m (10 ^ s)
  have hql := LongDiv.len_mono (Nat.div_le_self (m * 10 ^ s) d)
  have hrl := LongDiv.len_mono (Nat.le_of_lt (Nat.mod_lt (m * 10 ^ s) hd))
  have HP := Lib.hid (fun W => pow10_any s W (by omega))
  have HM := Lib.hid (fun v' W h1 h2 => natMul_any u v' m (10 ^ s) W h1 h2 (by omega) (by omega))
  have HD := Lib.hid (fun u' W h1 h2 => natDiv_any u' v (m * 10 ^ s) d W h1 h2 (by omega) (by omega) hd)
  have HU := Lib.hid (fun (W : World) (hb : Below w.heap.size w W) => hu.below hb)
  have HV := Lib.hid (fun (W : World) (hb : Below w.heap.size w W) => hv.below hb)
  have hr2 := LongDiv.len_mono (show m * 10 ^ s % d + m * 10 ^ s % d ≤ d * 1000000000 by have := Nat.mod_lt (m * 10 ^ s) hd; omega)
  have hr3 := LongDiv.len_mul d 1000000000
  have hr4 := limbs_length 2 1000000000 (by decide)
  have HA := Lib.hid (fun u' W h1 => natAdd_any u' u' (m * 10 ^ s % d) (m * 10 ^ s % d) W h1 h1 (by omega) (by omega))
  have HC := Lib.hid (fun u' W h1 h2 => natCmp_any u' v (m * 10 ^ s % d + m * 10 ^ s % d) d W h1 h2 (by omega) (by omega))
  have HR := Lib.hid (fun W => rounds_any way neg (cmp (m * 10 ^ s % d + m * 10 ^ s % d) d) (decide (m * 10 ^ s / d % 2 = 1)) W)
  rw [hrn] at HR
  have hlp : 0 < (limbs (m * 10 ^ s / d)).length := (limbs_len_pos _).2 hq
  have HI := Lib.hid (fun u' v' W h1 h2 => natAdd_any u' v' (m * 10 ^ s / d) 1 W h1 h2 (by omega) (by rw [limbs_one 1 (by omega) (by omega)]; simp))
  have HO := Lib.hid (fun W => one_any W)
  have HW := Lib.hid (fun r W hr => wholeMk_any neg r (m * 10 ^ s / d + 1) W hr)
  generalize (neg && decide (0 < m * 10 ^ s / d + 1)) = sg at HW ⊢
  obtain ⟨od, hod⟩ : ∃ od, decide (m * 10 ^ s / d % 2 = 1) = od := ⟨_, rfl⟩
  obtain ⟨lo, hlo⟩ : ∃ lo, m * 10 ^ s / d % 1000000000 = lo := ⟨_, rfl⟩
  have hlol : lo < 1000000000 := by rw [← hlo]; exact Nat.mod_lt _ (by decide)
  have hlod : decide (lo % 2 = 1) = od := by rw [← hod, ← hlo]; congr 2; omega
  rw [hod] at HR
  have HL := Lib.hid hlo
  clear hod hlo
  generalize cmp (m * 10 ^ s % d + m * 10 ^ s % d) d = half at *
  generalize m * 10 ^ s / d = q at *
  generalize hr0 : m * 10 ^ s % d = r0 at *
  have hrp : 0 < (limbs r0).length := (limbs_len_pos _).2 h0
  have hrk : (limbs r0).length < 3000 := by omega
  have hqk : (limbs q).length < 3000 := by omega
  obtain ⟨A, c, rfl, hc, hr⟩ := hu
  obtain ⟨B, cb, rfl, hcb, hrb⟩ := hv
  have hw : IntKind.i64.wrap (-(s : Int)) = -(s : Int) := IntWalk.i64_in _ (by omega)
  have HS : Hid (St w ((w.alloc (.cells #[.bool neg, .slice A (limbs m).length c, .slice B (limbs d).length cb] 45)).alloc (.cells #[.bool false, .slice none 0 0, .int .i64 0] 40))
      [(w.heap.size + 1, 0, .bool false), (w.heap.size + 1, 1, .slice none 0 0), (w.heap.size + 1, 2, .int .i64 0), (w.heap.size, 0, .bool neg), (w.heap.size, 1, .slice A (limbs m).length c), (w.heap.size, 2, .slice B (limbs d).length cb)] (w.heap.size + 1) 3) :=
    ⟨Cells.box3 (Cells.box3 (Cells.nil _) rfl _ _ _ _) (by simp) _ _ _ _, fun o _ => free_box (by simp) _ _ _, by simp, ((Below.refl _ _).alloc (Nat.le_refl _) _).alloc (by simp) _⟩
  clear h0 hq hrn hr2 hr3 hr4 hr0
  clear hr hrb hc hcb hm hml hpl hdl hql hrl hs hd
  go_enter Tryd.func26, Tryd.ntmps26
  go_wp2
  obtain ⟨W, hW⟩ : ∃ W, (w.alloc (.cells #[.bool neg, .slice A (limbs m).length c, .slice B (limbs d).length cb] 45)).alloc (.cells #[.bool false, .slice none 0 0, .int .i64 0] 40) = W := ⟨_, rfl⟩
  rw [hW] at HS ⊢
  clear hW
  obtain ⟨d0, d1, d2, a0, a1, a2, -⟩ := HS.out.cells
  go_quiet (fail)
  have HS1 := Lib.hid (fun k => HS.out.call (pw_below_drewN (n := k) (Below.refl _ W)))
  clear HS d0 d1 d2 a0 a1 a2
  go_wp2_with (first | (go_at_call 57; go_must (refine (HP.out _).mono ?_); rintro e w2 ⟨r, rfl, hn, hb⟩; have HS2 := Lib.hid ((HS1.out _).call hb); have HG2 := Lib.hid hn; obtain ⟨A2, c2, rfl⟩ := hn.slice; clear hn hb) | (go_at_call 56; go_must (refine (HM.out _ _ (HU.out _ HS2.out.below) HG2.out.isNat).mono ?_); rintro e w3 ⟨r, rfl, hn, hb⟩; have HS3 := Lib.hid (HS2.out.call hb); have HG3 := Lib.hid hn; obtain ⟨A3, c3, rfl⟩ := hn.slice; clear hn hb) | (go_at_call 58; go_must (refine (HD.out _ _ HG3.out.isNat (HV.out _ HS3.out.below)).mono ?_); rintro e w4 ⟨q, r, rfl, hn, hn', hb⟩; have HS4 := Lib.hid (HS3.out.call hb); have HG4 := Lib.hid hn; have HG4' := Lib.hid hn'; obtain ⟨A4, c4, rfl⟩ := hn.slice; obtain ⟨A5, c5, rfl⟩ := hn'.slice; clear hn hn' hb))
  obtain ⟨-, ad4, e4, hc4⟩ := nat_cell HG4.out.isNat 0 hlp
  subst e4
  rw [rest_zero, HL.out, Addr.add_zero'] at hc4
  have hB4 := Lib.hid (Below.refl w4.heap.size w4)
  obtain ⟨o, ho⟩ : ∃ o : Nat, lo % 2 = o := ⟨_, rfl⟩
  have t1 : Int.tmod (lo : Int) 2 = (o : Int) := by rw [Int.tmod_eq_emod_of_nonneg (by omega), ← ho]; rfl
  have t4 : (lo : Int) % 2 = (o : Int) := by rw [← ho]; rfl
  have t2 : ((o : Int) == 1) = od := by
    rw [← hlod, ho]
    by_cases h : o = 1
    · subst h; rfl
    · rw [decide_eq_false h, beq_eq_false_iff_ne]
      omega
  have hol : o < 2 := by omega
  have t3 : IntKind.u32.wrap (o : Int) = (o : Int) := IntWalk.u32_in _ ⟨by omega, by omega⟩
  have HC4 := Lib.hid hc4
  clear hlod ho hc4
  have HBD := Lib.hid (below_drew (Below.refl w4.heap.size w4))
  have HSD := Lib.hid (HS4.out.call HBD.out)
  have HRD := Lib.hid (HG4'.out.below HBD.out)
  have HQD := Lib.hid (HG4.out.below HBD.out)
  first | (go_region_held3 (fun W' => W'.cell? ⟨w.heap.size, 0, none⟩ = some (.bool neg) ∧ W'.cell? ad4 = some (.int .u32 (lo : Int)))
    (first | exact ⟨HS7.out.cells.2.2.2.1, pw_cell_below HB7.out HC4.out⟩ | exact ⟨HS6.out.cells.2.2.2.1, pw_cell_below HB6.out HC4.out⟩ | exact ⟨HS5.out.cells.2.2.2.1, pw_cell_below HB5.out HC4.out⟩ | exact ⟨HSD.out.cells.2.2.2.1, pw_cell_below HBD.out HC4.out⟩ | go_keep)
    (first | (go_at_call 61; (refine (HA.out _ _ HRD.out.isNat).mono ?_); rintro e w5 ⟨ra, rfl, hn, hb⟩; have HS5 := Lib.hid (HSD.out.call hb); have HB5 := Lib.hid (HBD.out.trans (hb.mono HBD.out.size)); have HG5a := Lib.hid hn; obtain ⟨A9, c9, rfl⟩ := hn.slice; clear hn hb) | (go_at_call 60; (refine (HC.out _ _ HG5a.out.isNat (HV.out _ HS5.out.below)).mono ?_); rintro e w6 ⟨rfl, hb⟩; have HS6 := Lib.hid (HS5.out.call hb); have HB6 := Lib.hid (HB5.out.trans (hb.mono HB5.out.size)); clear hb) | (go_at_call 59; (refine (HR.out _).mono ?_); rintro e w7 ⟨rfl, hb⟩; have HS7 := Lib.hid (HS6.out.call hb); have HB7 := Lib.hid (HB6.out.trans (hb.mono HB6.out.size)); clear hb))) | fail "no"
  all_goals (have HQ7 := Lib.hid (HG4.out.below HB7.out); have HLT := Lib.hid HS3.out.lt; have HLE := Lib.hid HS3.out.below.size; obtain ⟨d07, d17, d27, a07, a17, a27, -⟩ := HS7.out.cells)
  all_goals (go_wp2_with (first | (go_at_call 55; go_must (refine (HO.out _).mono ?_); rintro e w7a ⟨r, rfl, hn, hb⟩; have HS7a := Lib.hid (HS7.out.call hb); have HQ7a := Lib.hid (HQ7.out.below hb); have HO7 := Lib.hid hn; obtain ⟨Ao, co, rfl⟩ := hn.slice; clear hn hb) | (go_at_call 61; go_must (refine (HI.out _ _ _ HQ7a.out.isNat HO7.out.isNat).mono ?_); rintro e w8 ⟨r, rfl, hn, hb⟩; have HS8 := Lib.hid (HS7a.out.call hb); have HG5 := Lib.hid hn; obtain ⟨d08, d18, d28, a08, a18, a28, -⟩ := HS8.out.cells; have HLT8 := Lib.hid HS7a.out.lt; have HLE8 := Lib.hid HS7a.out.below.size; obtain ⟨Aq, cq, rfl⟩ := hn.slice; clear hn hb) | (go_at_call 62; go_must (refine (HW.out _ _ HG5.out.isNat).mono ?_); rintro e w9 ⟨rfl, hb⟩; have HS9 := Lib.hid (HS8.out.call hb); have HG9 := Lib.hid (HG5.out.below hb); obtain ⟨e0, e1, e2, -⟩ := HS9.out.cells; have f0 := HS9.out.free 0 (by omega); have f1 := HS9.out.free 1 (by omega); have f2 := HS9.out.free 2 (by omega); have hz := HS9.out.lt; clear hb)))
  all_goals exact bodyPost_ret (v := .agg #[.bool sg, .slice Aq (limbs (q + 1)).length cq, .int .i64 (-(s : Int))]) (by simp [results, Tryd.results26, go_sem, e0, e1, e2, f0, f1, f2, hz]) rfl ⟨_, rfl, (((HG9.out.set (by exact HLT8.out) _).set (by exact HLT8.out) _).set (by exact HLT8.out) _).lower HLE8.out, ((HS9.out.below.setCell (p := ⟨w.heap.size + 1, 0, none⟩) (Nat.le_succ _) _).setCell (p := ⟨w.heap.size + 1, 1, none⟩) (Nat.le_succ _) _).setCell (p := ⟨w.heap.size + 1, 2, none⟩) (Nat.le_succ _) _⟩

set_option maxHeartbeats 4000000 in
set_option maxRecDepth 100000 in
theorem round_stay (neg : Bool) (m d s : Nat) (way : Int) (u v : Value) (w : World) (hu : IsNat w u m) (hv : IsNat w v d) (hd : 0 < d) (hm : (limbs m).length < 1000) (hdl : (limbs d).length < 1000) (hs : s < 100) (h0 : 0 < m * 10 ^ s % d) (hq : 0 < m * 10 ^ s / d) (hrn : rnd way neg (cmp (m * 10 ^ s % d + m * 10 ^ s % d) d) (decide (m * 10 ^ s / d % 2 = 1)) = false) :
    Calls Tryd.prog 26 #[.agg #[.bool neg, u, v], .int .i64 s, .int .i64 way] w fun e w' => ∃ r, e = .returned (.agg #[.bool (neg && decide (0 < m * 10 ^ s / d)), r, .int .i64 (-(s : Int))]) ∧ IsNew w' w.heap.size r (m * 10 ^ s / d) ∧ Below w.heap.size w w' := by
  have hpl := limbs_length 12 (10 ^ s) (Nat.lt_of_lt_of_le (Nat.pow_lt_pow_right (by decide) hs) (by decide))
  have hml := LongDiv.len_mul m (10 ^ s)
  have hql := LongDiv.len_mono (Nat.div_le_self (m * 10 ^ s) d)
  have hrl := LongDiv.len_mono (Nat.le_of_lt (Nat.mod_lt (m * 10 ^ s) hd))
  have HP := Lib.hid (fun W => pow10_any s W (by omega))
  have HM := Lib.hid (fun v' W h1 h2 => natMul_any u v' m (10 ^ s) W h1 h2 (by omega) (by omega))
  have HD := Lib.hid (fun u' W h1 h2 => natDiv_any u' v (m * 10 ^ s) d W h1 h2 (by omega) (by omega) hd)
  have HU := Lib.hid (fun (W : World) (hb : Below w.heap.size w W) => hu.below hb)
  have HV := Lib.hid (fun (W : World) (hb : Below w.heap.size w W) => hv.below hb)
  have hr2 := LongDiv.len_mono (show m * 10 ^ s % d + m * 10 ^ s % d ≤ d * 1000000000 by have := Nat.mod_lt (m * 10 ^ s) hd; omega)
  have hr3 := LongDiv.len_mul d 1000000000
  have hr4 := limbs_length 2 1000000000 (by decide)
  have HA := Lib.hid (fun u' W h1 => natAdd_any u' u' (m * 10 ^ s % d) (m * 10 ^ s % d) W h1 h1 (by omega) (by omega))
  have HC := Lib.hid (fun u' W h1 h2 => natCmp_any u' v (m * 10 ^ s % d + m * 10 ^ s % d) d W h1 h2 (by omega) (by omega))
  have HR := Lib.hid (fun W => rounds_any way neg (cmp (m * 10 ^ s % d + m * 10 ^ s % d) d) (decide (m * 10 ^ s / d % 2 = 1)) W)
  rw [hrn] at HR
  have hlp : 0 < (limbs (m * 10 ^ s / d)).length := (limbs_len_pos _).2 hq
  have HW := Lib.hid (fun r W hr => wholeMk_any neg r (m * 10 ^ s / d) W hr)
  generalize (neg && decide (0 < m * 10 ^ s / d)) = sg at HW ⊢
  obtain ⟨od, hod⟩ : ∃ od, decide (m * 10 ^ s / d % 2 = 1) = od := ⟨_, rfl⟩
  obtain ⟨lo, hlo⟩ : ∃ lo, m * 10 ^ s / d % 1000000000 = lo := ⟨_, rfl⟩
  have hlol : lo < 1000000000 := by rw [← hlo]; exact Nat.mod_lt _ (by decide)
  have hlod : decide (lo % 2 = 1) = od := by rw [← hod, ← hlo]; congr 2; omega
  rw [hod] at HR
  have HL := Lib.hid hlo
  clear hod hlo
  generalize cmp (m * 10 ^ s % d + m * 10 ^ s % d) d = half at *
  generalize m * 10 ^ s / d = q at *
  generalize hr0 : m * 10 ^ s % d = r0 at *
  have hrp : 0 < (limbs r0).length := (limbs_len_pos _).2 h0
  have hrk : (limbs r0).length < 3000 := by omega
  have hqk : (limbs q).length < 3000 := by omega
  obtain ⟨A, c, rfl, hc, hr⟩ := hu
  obtain ⟨B, cb, rfl, hcb, hrb⟩ := hv
  have hw : IntKind.i64.wrap (-(s : Int)) = -(s : Int) := IntWalk.i64_in _ (by omega)
  have HS : Hid (St w ((w.alloc (.cells #[.bool neg, .slice A (limbs m).length c, .slice B (limbs d).length cb] 45)).alloc (.cells #[.bool false, .slice none 0 0, .int .i64 0] 40))
      [(w.heap.size + 1, 0, .bool false), (w.heap.size + 1, 1, .slice none 0 0), (w.heap.size + 1, 2, .int .i64 0), (w.heap.size, 0, .bool neg), (w.heap.size, 1, .slice A (limbs m).length c), (w.heap.size, 2, .slice B (limbs d).length cb)] (w.heap.size + 1) 3) :=
    ⟨Cells.box3 (Cells.box3 (Cells.nil _) rfl _ _ _ _) (by simp) _ _ _ _, fun o _ => free_box (by simp) _ _ _, by simp, ((Below.refl _ _).alloc (Nat.le_refl _) _).alloc (by simp) _⟩
  clear h0 hq hrn hr2 hr3 hr4 hr0
  clear hr hrb hc hcb hm hml hpl hdl hql hrl hs hd
  go_enter Tryd.func26, Tryd.ntmps26
  go_wp2
  obtain ⟨W, hW⟩ : ∃ W, (w.alloc (.cells #[.bool neg, .slice A (limbs m).length c, .slice B (limbs d).length cb] 45)).alloc (.cells #[.bool false, .slice none 0 0, .int .i64 0] 40) = W := ⟨_, rfl⟩
  rw [hW] at HS ⊢
  clear hW
  obtain ⟨d0, d1, d2, a0, a1, a2, -⟩ := HS.out.cells
  go_quiet (fail)
  have HS1 := Lib.hid (fun k => HS.out.call (pw_below_drewN (n := k) (Below.refl _ W)))
  clear HS d0 d1 d2 a0 a1 a2
  go_wp2_with (first | (go_at_call 57; go_must (refine (HP.out _).mono ?_); rintro e w2 ⟨r, rfl, hn, hb⟩; have HS2 := Lib.hid ((HS1.out _).call hb); have HG2 := Lib.hid hn; obtain ⟨A2, c2, rfl⟩ := hn.slice; clear hn hb) | (go_at_call 56; go_must (refine (HM.out _ _ (HU.out _ HS2.out.below) HG2.out.isNat).mono ?_); rintro e w3 ⟨r, rfl, hn, hb⟩; have HS3 := Lib.hid (HS2.out.call hb); have HG3 := Lib.hid hn; obtain ⟨A3, c3, rfl⟩ := hn.slice; clear hn hb) | (go_at_call 58; go_must (refine (HD.out _ _ HG3.out.isNat (HV.out _ HS3.out.below)).mono ?_); rintro e w4 ⟨q, r, rfl, hn, hn', hb⟩; have HS4 := Lib.hid (HS3.out.call hb); have HG4 := Lib.hid hn; have HG4' := Lib.hid hn'; obtain ⟨A4, c4, rfl⟩ := hn.slice; obtain ⟨A5, c5, rfl⟩ := hn'.slice; clear hn hn' hb))
  obtain ⟨-, ad4, e4, hc4⟩ := nat_cell HG4.out.isNat 0 hlp
  subst e4
  rw [rest_zero, HL.out, Addr.add_zero'] at hc4
  have hB4 := Lib.hid (Below.refl w4.heap.size w4)
  obtain ⟨o, ho⟩ : ∃ o : Nat, lo % 2 = o := ⟨_, rfl⟩
  have t1 : Int.tmod (lo : Int) 2 = (o : Int) := by rw [Int.tmod_eq_emod_of_nonneg (by omega), ← ho]; rfl
  have t4 : (lo : Int) % 2 = (o : Int) := by rw [← ho]; rfl
  have t2 : ((o : Int) == 1) = od := by
    rw [← hlod, ho]
    by_cases h : o = 1
    · subst h; rfl
    · rw [decide_eq_false h, beq_eq_false_iff_ne]
      omega
  have hol : o < 2 := by omega
  have t3 : IntKind.u32.wrap (o : Int) = (o : Int) := IntWalk.u32_in _ ⟨by omega, by omega⟩
  have HC4 := Lib.hid hc4
  clear hlod ho hc4
  have HBD := Lib.hid (below_drew (Below.refl w4.heap.size w4))
  have HSD := Lib.hid (HS4.out.call HBD.out)
  have HRD := Lib.hid (HG4'.out.below HBD.out)
  have HQD := Lib.hid (HG4.out.below HBD.out)
  first | (go_region_held3 (fun W' => W'.cell? ⟨w.heap.size, 0, none⟩ = some (.bool neg) ∧ W'.cell? ad4 = some (.int .u32 (lo : Int)))
    (first | exact ⟨HS7.out.cells.2.2.2.1, pw_cell_below HB7.out HC4.out⟩ | exact ⟨HS6.out.cells.2.2.2.1, pw_cell_below HB6.out HC4.out⟩ | exact ⟨HS5.out.cells.2.2.2.1, pw_cell_below HB5.out HC4.out⟩ | exact ⟨HSD.out.cells.2.2.2.1, pw_cell_below HBD.out HC4.out⟩ | go_keep)
    (first | (go_at_call 61; (refine (HA.out _ _ HRD.out.isNat).mono ?_); rintro e w5 ⟨ra, rfl, hn, hb⟩; have HS5 := Lib.hid (HSD.out.call hb); have HB5 := Lib.hid (HBD.out.trans (hb.mono HBD.out.size)); have HG5a := Lib.hid hn; obtain ⟨A9, c9, rfl⟩ := hn.slice; clear hn hb) | (go_at_call 60; (refine (HC.out _ _ HG5a.out.isNat (HV.out _ HS5.out.below)).mono ?_); rintro e w6 ⟨rfl, hb⟩; have HS6 := Lib.hid (HS5.out.call hb); have HB6 := Lib.hid (HB5.out.trans (hb.mono HB5.out.size)); clear hb) | (go_at_call 59; (refine (HR.out _).mono ?_); rintro e w7 ⟨rfl, hb⟩; have HS7 := Lib.hid (HS6.out.call hb); have HB7 := Lib.hid (HB6.out.trans (hb.mono HB6.out.size)); clear hb))) | fail "no"
  all_goals (have HQ7 := Lib.hid (HG4.out.below HB7.out); have HLT := Lib.hid HS3.out.lt; have HLE := Lib.hid HS3.out.below.size; obtain ⟨d07, d17, d27, a07, a17, a27, -⟩ := HS7.out.cells)
  all_goals go_wp2_with (first | (go_at_call 62; go_must (refine (HW.out _ _ HQ7.out.isNat).mono ?_); rintro e w9 ⟨rfl, hb⟩; have HS9 := Lib.hid (HS7.out.call hb); have HG9 := Lib.hid (HQ7.out.below hb); obtain ⟨e0, e1, e2, -⟩ := HS9.out.cells; have f0 := HS9.out.free 0 (by omega); have f1 := HS9.out.free 1 (by omega); have f2 := HS9.out.free 2 (by omega); have hz := HS9.out.lt; clear hb))
  all_goals exact bodyPost_ret (v := .agg #[.bool sg, .slice (some ad4) (limbs q).length c4, .int .i64 (-(s : Int))]) (by simp [results, Tryd.results26, go_sem, e0, e1, e2, f0, f1, f2, hz]) rfl ⟨_, rfl, (((HG9.out.set (by exact HLT.out) _).set (by exact HLT.out) _).set (by exact HLT.out) _).lower HLE.out, ((HS9.out.below.setCell (p := ⟨w.heap.size + 1, 0, none⟩) (Nat.le_succ _) _).setCell (p := ⟨w.heap.size + 1, 1, none⟩) (Nat.le_succ _) _).setCell (p := ⟨w.heap.size + 1, 2, none⟩) (Nat.le_succ _) _⟩

/-- Frac.Round. -/
theorem round_any (neg : Bool) (m d s : Nat) (way : Int) (u v : Value) (w : World) (hu : IsNat w u m) (hv : IsNat w v d) (hd : 0 < d) (hm : (limbs m).length < 1000) (hdl : (limbs d).length < 1000) (hs : s < 100) :
    Calls Tryd.prog 26 #[.agg #[.bool neg, u, v], .int .i64 s, .int .i64 way] w fun e w' => ∃ r, e = .returned (.agg #[.bool (neg && decide (0 < rq way neg (m * 10 ^ s) d)), r, .int .i64 (-(s : Int))]) ∧ IsNew w' w.heap.size r (rq way neg (m * 10 ^ s) d) ∧ Below w.heap.size w w' := by
  unfold rq
  by_cases h0 : 0 < m * 10 ^ s % d
  · cases hr : rnd way neg (cmp (m * 10 ^ s % d + m * 10 ^ s % d) d) (decide (m * 10 ^ s / d % 2 = 1))
    · rw [if_neg (by simp)]
      by_cases hq : 0 < m * 10 ^ s / d
      · exact round_stay neg m d s way u v w hu hv hd hm hdl hs h0 hq hr
      · exact round_low_stay neg m d s way u v w hu hv hd hm hdl hs h0 (Nat.eq_zero_of_not_pos hq) hr
    · rw [if_pos ⟨h0, rfl⟩]
      by_cases hq : 0 < m * 10 ^ s / d
      · exact round_up neg m d s way u v w hu hv hd hm hdl hs h0 hq hr
      · exact round_low_up neg m d s way u v w hu hv hd hm hdl hs h0 (Nat.eq_zero_of_not_pos hq) hr
  · rw [if_neg (fun h => h0 h.1)]
    exact round_zero neg m d s way u v w hu hv hd hm hdl hs (by omega)
end Go.Proofs.YthkmgjkajllemaaDoor.Spec

/- Whole numbers of 64 bits divided by powers of ten: down, up, half to even. -/
namespace Go.Proofs.YthkmgjkajllemaaDoor.Spec
open Go.RowKit Go.Proofs.YthkmgjkajllemaaDoorW.PrintWords Go.Proofs.YthkmgjkajllemaaDoor.Num Go.Proofs.YthkmgjkajllemaaDoor.Arith Go.Proofs.YthkmgjkajllemaaDoor.Make
set_option linter.unusedVariables false
set_option linter.unusedSimpArgs false

/-- Rounded up. -/
def rUp (n d : Nat) : Nat := if 0 < n % 10 ^ d then n / 10 ^ d + 1 else n / 10 ^ d
/-- Rounded half to even. -/
def rEven (n d : Nat) : Nat := if 10 ^ d < 2 * (n % 10 ^ d) ∨ (10 ^ d = 2 * (n % 10 ^ d) ∧ n / 10 ^ d % 2 = 1) then n / 10 ^ d + 1 else n / 10 ^ d

theorem ten_le (d : Nat) (h1 : 1 ≤ d) : 10 ≤ 10 ^ d ∧ 10 ^ d % 2 = 0 := by
  obtain ⟨e, rfl⟩ : ∃ e, d = e + 1 := ⟨d - 1, by omega⟩
  have : 0 < 10 ^ e := Nat.pow_pos (by decide)
  rw [Nat.pow_succ]
  omega
theorem ret_u64 {a b : Int} (h : a = b) : Ending.returned (.int .u64 a) = .returned (.int .u64 b) := by rw [h]

set_option maxHeartbeats 1000000 in
theorem rshDown_any (n d : Nat) (w : World) (hn : n ≤ 9999999999999999999) (h1 : 1 ≤ d) (h2 : d ≤ 19) (hp : w.cell? ⟨0, d, none⟩ = some (.int .u64 ((10 ^ d : Nat) : Int))) :
    Calls Tryd.prog 89 #[.int .u64 n, .int .i64 d] w fun e w' => e = .returned (.int .u64 ((n / 10 ^ d : Nat) : Int)) ∧ Below w.heap.size w w' := by
  have hd1 : decide (d = 0) = false := decide_eq_false (by omega)
  have hd2 : decide ((20 : Int) ≤ (d : Int)) = false := decide_eq_false (by omega)
  have hc := (ten_le d h1).1
  obtain ⟨c, hcc⟩ : ∃ c, 10 ^ d = c := ⟨_, rfl⟩
  rw [hcc] at hp hc ⊢
  have hq : (n : Int) / (c : Int) = ((n / c : Nat) : Int) := by rw [Int.natCast_ediv]
  clear hcc
  by_cases h0 : n = 0
  · subst h0
    rw [show 0 / c = 0 from Nat.zero_div _]
    clear hq
    go_enter Tryd.func89, Tryd.ntmps89
    go_wp2
    go_ret
    exact ⟨rfl, Below.refl _ _⟩
  · have h00 : ((n : Int) == 0) = false := beq_eq_false_iff_ne.2 (by omega)
    have hqn : n / c ≤ n := Nat.div_le_self _ _
    generalize n / c = q at hq hqn ⊢
    go_enter Tryd.func89, Tryd.ntmps89
    go_wp2
    go_ret
    exact ⟨rfl, Below.refl _ _⟩
set_option maxHeartbeats 1000000 in
theorem rshUp_any (n d : Nat) (w : World) (hn : n ≤ 9999999999999999999) (h1 : 1 ≤ d) (h2 : d ≤ 19) (hp : w.cell? ⟨0, d, none⟩ = some (.int .u64 ((10 ^ d : Nat) : Int))) :
    Calls Tryd.prog 90 #[.int .u64 n, .int .i64 d] w fun e w' => e = .returned (.int .u64 ((rUp n d : Nat) : Int)) ∧ Below w.heap.size w w' := by
  have hd1 : decide (d = 0) = false := decide_eq_false (by omega)
  have hd2 : decide ((20 : Int) ≤ (d : Int)) = false := decide_eq_false (by omega)
  have hc := (ten_le d h1).1
  unfold rUp
  obtain ⟨c, hcc⟩ : ∃ c, 10 ^ d = c := ⟨_, rfl⟩
  rw [hcc] at hp hc ⊢
  have hq : (n : Int) / (c : Int) = ((n / c : Nat) : Int) := by rw [Int.natCast_ediv]
  have hm : ((n / c : Nat) : Int) * (c : Int) = ((n / c * c : Nat) : Int) := by rw [Int.natCast_mul]
  have hdm := Nat.div_add_mod n c
  rw [Nat.mul_comm] at hdm
  have hqn : n / c * 10 ≤ n := Nat.le_trans (Nat.mul_le_mul_left _ hc) (Nat.div_mul_le_self n c)
  clear hcc
  by_cases h0 : n = 0
  · subst h0
    rw [show 0 / c = 0 from Nat.zero_div _, show 0 % c = 0 from Nat.zero_mod _, if_neg (by omega)]
    clear hq hm hdm hqn
    go_enter Tryd.func90, Tryd.ntmps90
    go_wp2
    go_ret
    exact ⟨rfl, Below.refl _ _⟩
  · have h00 : ((n : Int) == 0) = false := beq_eq_false_iff_ne.2 (by omega)
    generalize n / c = q at *
    generalize n % c = r at *
    obtain ⟨p, hpp⟩ : ∃ p, q * c = p := ⟨_, rfl⟩
    rw [hpp] at hm hdm
    clear hpp
    have hpl : p ≤ n := by omega
    by_cases hr : 0 < r
    · rw [if_pos hr]
      have hrb : decide (p < n) = true := decide_eq_true (by omega)
      clear hdm
      go_enter Tryd.func90, Tryd.ntmps90
      go_wp2
      go_ret
      exact ⟨ret_u64 (by omega), Below.refl _ _⟩
    · rw [if_neg hr]
      have hrb : decide (p < n) = false := decide_eq_false (by omega)
      clear hdm
      go_enter Tryd.func90, Tryd.ntmps90
      go_wp2
      go_ret
      exact ⟨rfl, Below.refl _ _⟩
theorem and1 (x : Nat) (h : x < 18446744073709551616) : bits .and .u64 (x : Int) 1 = ((x % 2 : Nat) : Int) := by
  have h1 := (bits_nat .u64 64 (by decide) (fun n h0 h1 => by rw [IntKind.wrap_u64]; omega) x 1 (by omega) (by decide)).1
  rw [Nat.and_one_is_mod] at h1
  exact h1
theorem isOdd_any (q : Nat) (w : World) (hq : q ≤ 9999999999999999999) :
    Calls Tryd.prog 105 #[.int .u64 q] w fun e w' => e = .returned (.bool (decide (q % 2 = 1))) ∧ Below w.heap.size w w' := by
  have ha := and1 q (by omega)
  have hb : (((q % 2 : Nat) : Int) != 0) = decide (q % 2 = 1) := by
    by_cases h : q % 2 = 1
    · rw [h]; rfl
    · rw [show q % 2 = 0 by omega]; rfl
  generalize decide (q % 2 = 1) = t at *
  generalize q % 2 = o at *
  go_enter Tryd.func105, Tryd.ntmps105
  go_wp2
  go_ret
  exact ⟨rfl, Below.refl _ _⟩
set_option maxHeartbeats 1000000 in
set_option maxRecDepth 100000 in
theorem rshEven_any (n d : Nat) (w : World) (hn : n ≤ 9999999999999999999) (h1 : 1 ≤ d) (h2 : d ≤ 19) (hp : w.cell? ⟨0, d, none⟩ = some (.int .u64 ((10 ^ d : Nat) : Int))) :
    Calls Tryd.prog 91 #[.int .u64 n, .int .i64 d] w fun e w' => e = .returned (.int .u64 ((rEven n d : Nat) : Int)) ∧ Below w.heap.size w w' := by
  have hd1 : decide (d = 0) = false := decide_eq_false (by omega)
  have hd2 : decide ((20 : Int) ≤ (d : Int)) = false := decide_eq_false (by omega)
  have hc := (ten_le d h1).1
  have hev := (ten_le d h1).2
  unfold rEven
  obtain ⟨c, hcc⟩ : ∃ c, 10 ^ d = c := ⟨_, rfl⟩
  rw [hcc] at hp hc hev ⊢
  have hq : (n : Int) / (c : Int) = ((n / c : Nat) : Int) := by rw [Int.natCast_ediv]
  have hm : ((n / c : Nat) : Int) * (c : Int) = ((n / c * c : Nat) : Int) := by rw [Int.natCast_mul]
  have hdm := Nat.div_add_mod n c
  rw [Nat.mul_comm] at hdm
  have hqn : n / c * 10 ≤ n := Nat.le_trans (Nat.mul_le_mul_left _ hc) (Nat.div_mul_le_self n c)
  clear hcc
  by_cases h0 : n = 0
  · subst h0
    rw [show 0 / c = 0 from Nat.zero_div _, show 0 % c = 0 from Nat.zero_mod _, if_neg (by omega)]
    clear hq hm hdm hqn hev
    go_enter Tryd.func91, Tryd.ntmps91
    go_wp2
    go_ret
    exact ⟨rfl, Below.refl _ _⟩
  · have h00 : ((n : Int) == 0) = false := beq_eq_false_iff_ne.2 (by omega)
    have HO := Lib.hid (fun W => isOdd_any (n / c) W (by omega))
    obtain ⟨h2c, hhc⟩ : ∃ h2c, c / 2 = h2c := ⟨_, rfl⟩
    have hsh : (c : Int) / 2 = (h2c : Int) := by omega
    have hhl : h2c ≤ c := by omega
    have HH : Hid (c = 2 * h2c) := Lib.hid (by omega)
    clear hhc hev
    generalize n / c = q at *
    generalize n % c = r at *
    obtain ⟨p, hpp⟩ : ∃ p, q * c = p := ⟨_, rfl⟩
    rw [hpp] at hm hdm
    clear hpp
    have hpl : p ≤ n := by omega
    have hpl2 : p + r = n := hdm
    rcases Nat.lt_trichotomy h2c r with hA | hA | hA
    · rw [if_pos (.inl (by have := HH.out; omega))]
      have hB : h2c + p < n := by omega
      clear hA hdm hpl2 HH HO
      go_enter Tryd.func91, Tryd.ntmps91
      go_wp2_with fail
      go_ret
      exact ⟨ret_u64 (by omega), Below.refl _ _⟩
    · have hB : h2c + p ≤ n := by omega
      have hB2 : n ≤ h2c + p := by omega
      by_cases hod : q % 2 = 1
      · rw [if_pos (.inr ⟨by have := HH.out; omega, hod⟩)]
        rw [decide_eq_true hod] at HO
        clear hA hdm hpl2 HH hod
        go_enter Tryd.func91, Tryd.ntmps91
        go_wp2_with (go_at_call 105; go_must (refine (HO.out _).mono ?_); rintro e w1 ⟨rfl, hb⟩; have HB := Lib.hid hb; clear hb)
        go_ret
        exact ⟨ret_u64 (by omega), HB.out⟩
      · rw [if_neg (fun h => by have := HH.out; omega)]
        rw [decide_eq_false hod] at HO
        clear hA hdm hpl2 HH hod
        go_enter Tryd.func91, Tryd.ntmps91
        go_wp2_with (go_at_call 105; go_must (refine (HO.out _).mono ?_); rintro e w1 ⟨rfl, hb⟩; have HB := Lib.hid hb; clear hb)
        go_ret
        exact ⟨rfl, HB.out⟩
    · rw [if_neg (fun h => by have := HH.out; omega)]
      have hB : n < h2c + p := by omega
      clear hA hdm hpl2 HH HO
      go_enter Tryd.func91, Tryd.ntmps91
      go_wp2_with fail
      go_ret
      exact ⟨rfl, Below.refl _ _⟩
end Go.Proofs.YthkmgjkajllemaaDoor.Spec

/- FixZero, FixOne, FixULP: the deferred closures have nothing to recover. -/
namespace Go.Proofs.YthkmgjkajllemaaDoor.Spec
open Go.RowKit Go.Proofs.YthkmgjkajllemaaDoorW.PrintWords Go.Proofs.YthkmgjkajllemaaDoor.Make
set_option linter.unusedVariables false
set_option linter.unusedSimpArgs false

theorem Cells.box1 {W : World} {l : List (Nat × Nat × Value)} {b : Nat} (h : Cells W l) (hb : W.heap.size = b) (u : Value) (T : TypeId) : Cells (W.alloc (.cells #[u] T)) ((b, 0, u) :: l) := by
  subst hb
  exact ⟨by simp, h.alloc _⟩
theorem idle47 (p q : Addr) (w : World) :
    CallsD Tryd.prog 47 #[.pointer (some p), .pointer (some q)] .returning w fun e u' w' => e = .returned (.tuple #[]) ∧ u' = .returning ∧ w' = w := by
  refine callsD_of_wpS Tryd.func47 rfl fun c₀ cs hu => ?_
  apply wpS_seq
  apply wpS_region
  simp [wpOpsS, go_sem, recoverD, hu, Tryd.ntmps47, Exit.thenS]
  refine wpS_cond (t := false) (by simp [Act.eval, Array.replicate]) ?_
  simp only [Bool.false_eq_true, if_false]
  refine wpS_of_wp (wp_skip ?_)
  cases c₀
  simp_all [bodyPostS, results, Tryd.results47]
theorem idle50 (p q : Addr) (w : World) :
    CallsD Tryd.prog 50 #[.pointer (some p), .pointer (some q)] .returning w fun e u' w' => e = .returned (.tuple #[]) ∧ u' = .returning ∧ w' = w := by
  refine callsD_of_wpS Tryd.func50 rfl fun c₀ cs hu => ?_
  apply wpS_seq
  apply wpS_region
  simp [wpOpsS, go_sem, recoverD, hu, Tryd.ntmps50, Exit.thenS]
  refine wpS_cond (t := false) (by simp [Act.eval, Array.replicate]) ?_
  simp only [Bool.false_eq_true, if_false]
  refine wpS_of_wp (wp_skip ?_)
  cases c₀
  simp_all [bodyPostS, results, Tryd.results50]
theorem idle52 (p q : Addr) (w : World) :
    CallsD Tryd.prog 52 #[.pointer (some p), .pointer (some q)] .returning w fun e u' w' => e = .returned (.tuple #[]) ∧ u' = .returning ∧ w' = w := by
  refine callsD_of_wpS Tryd.func52 rfl fun c₀ cs hu => ?_
  apply wpS_seq
  apply wpS_region
  simp [wpOpsS, go_sem, recoverD, hu, Tryd.ntmps52, Exit.thenS]
  refine wpS_cond (t := false) (by simp [Act.eval, Array.replicate]) ?_
  simp only [Bool.false_eq_true, if_false]
  refine wpS_of_wp (wp_skip ?_)
  cases c₀
  simp_all [bodyPostS, results, Tryd.results52]
theorem idle63 (p q : Addr) (w : World) :
    CallsD Tryd.prog 63 #[.pointer (some p), .pointer (some q)] .returning w fun e u' w' => e = .returned (.tuple #[]) ∧ u' = .returning ∧ w' = w := by
  refine callsD_of_wpS Tryd.func63 rfl fun c₀ cs hu => ?_
  apply wpS_seq
  apply wpS_region
  simp [wpOpsS, go_sem, recoverD, hu, Tryd.ntmps63, Exit.thenS]
  refine wpS_cond (t := false) (by simp [Act.eval, Array.replicate]) ?_
  simp only [Bool.false_eq_true, if_false]
  refine wpS_of_wp (wp_skip ?_)
  cases c₀
  simp_all [bodyPostS, results, Tryd.results63]
theorem idle71 (p q : Addr) (w : World) :
    CallsD Tryd.prog 71 #[.pointer (some p), .pointer (some q)] .returning w fun e u' w' => e = .returned (.tuple #[]) ∧ u' = .returning ∧ w' = w := by
  refine callsD_of_wpS Tryd.func71 rfl fun c₀ cs hu => ?_
  apply wpS_seq
  apply wpS_region
  simp [wpOpsS, go_sem, recoverD, hu, Tryd.ntmps71, Exit.thenS]
  refine wpS_cond (t := false) (by simp [Act.eval, Array.replicate]) ?_
  simp only [Bool.false_eq_true, if_false]
  refine wpS_of_wp (wp_skip ?_)
  cases c₀
  simp_all [bodyPostS, results, Tryd.results71]

set_option maxHeartbeats 1000000 in
theorem fixZero_ok (neg : Bool) (n s : Nat) (w : World) (hs : s ≤ 19) (hn : n ≤ 9999999999999999999) :
    Calls Tryd.prog 21 #[.agg #[.bool neg, .int .u64 n, .int .i64 s]] w fun e w' => e = .returned (.tuple #[.agg #[.bool false, .int .u64 0, .int .i64 s], .int .i64 0]) ∧ Below w.heap.size w w' := by
  have hmf : ∀ (fn : Fn) (first cap : Array Value) (w : World), (Instr.makeFunc fn first cap).run Tryd.prog w = .ok (.func fn first cap) w := fun _ _ _ _ => rfl
  have HX := Lib.hid (fun W => fixed_ok neg n s W hs hn)
  generalize (neg && decide (0 < n)) = b at HX
  have HZ := Lib.hid (fun W => zero_any b s n W hs)
  have HF := Lib.hid (fun W => fix_any false s 0 W hs)
  rw [show ((0 : Nat) : Int) = 0 from rfl] at HF
  have HS : Hid (St w (((w.alloc (.cells #[.bool neg, .int .u64 n, .int .i64 s] 32)).alloc (.cells #[.bool false, .int .u64 0, .int .i64 0] 32)).alloc (.cells #[.int .i64 0] 3))
      [(w.heap.size + 1, 0, .bool false), (w.heap.size + 1, 1, .int .u64 0), (w.heap.size + 1, 2, .int .i64 0)] (w.heap.size + 1) 3) :=
    St.call ⟨Cells.box3 (Cells.nil _) (by simp) _ _ _ _, fun o _ => free_box (by simp) _ _ _, by simp, ((Below.refl _ _).alloc (Nat.le_refl _) _).alloc (by simp) _⟩ ((Below.refl _ _).alloc (Nat.le_refl _) _)
  have HT : Hid (St w (((w.alloc (.cells #[.bool neg, .int .u64 n, .int .i64 s] 32)).alloc (.cells #[.bool false, .int .u64 0, .int .i64 0] 32)).alloc (.cells #[.int .i64 0] 3))
      [(w.heap.size + 1 + 1, 0, .int .i64 0)] (w.heap.size + 1 + 1) 1) :=
    ⟨Cells.box1 (Cells.nil _) (by simp) _ _, fun o _ => free_box (by simp) _ _ _, by simp, (((Below.refl _ _).alloc (Nat.le_refl _) _).alloc (by simp) _).alloc (by simp; omega) _⟩
  clear hs hn
  go_enter_defers Tryd.func21, Tryd.ntmps21
  go_wp2_with (first | (go_at_call 48; go_must (refine (HX.out _).mono ?_); rintro e w2 ⟨rfl, hb⟩; have HS2 := Lib.hid (HS.out.call hb); have HT2 := Lib.hid (HT.out.call hb); have HL2 := Lib.hid HS2.out.lt; have HL2' := Lib.hid HT2.out.lt; clear hb) | (go_at_call 49; go_must (refine (HZ.out _).mono ?_); rintro e w3 ⟨rfl, hb⟩; have hb1 := below_one _ hb; have HS3 := Lib.hid (HS2.out.call hb1); have HT3 := Lib.hid (HT2.out.call hb1); clear hb hb1) | (go_at_call 45; go_must (refine (HF.out _).mono ?_); rintro e w4 ⟨rfl, hb⟩; have HS4 := Lib.hid (HS3.out.call hb); have HT4 := Lib.hid (HT3.out.call hb); obtain ⟨d0, d1, d2, -⟩ := HS4.out.cells; obtain ⟨d3, -⟩ := HT4.out.cells; have f0 := HS4.out.free 0 (by omega); have f1 := HS4.out.free 1 (by omega); have f2 := HS4.out.free 2 (by omega); have f3 := HT4.out.free 0 (by omega); clear hb))
  refine leaves_cons (f := 47) (args := #[.pointer (some ⟨w.heap.size + 1, 0, none⟩), .pointer (some ⟨w.heap.size + 1 + 1, 0, none⟩)]) (by simp) (by simp [go_sem]) ?_
  refine (idle47 _ _ _).mono ?_
  rintro e u' w'' ⟨rfl, rfl, rfl⟩
  have HE := (((HS4.out.below.setCell (p := ⟨w.heap.size + 1, 0, none⟩) (Nat.le_succ _) (.bool false)).setCell (p := ⟨w.heap.size + 1, 1, none⟩) (Nat.le_succ _) (.int .u64 0)).setCell (p := ⟨w.heap.size + 1, 2, none⟩) (Nat.le_succ _) (.int .i64 s)).setCell (p := ⟨w.heap.size + 1 + 1, 0, none⟩) (by show w.heap.size ≤ w.heap.size + 1 + 1; omega) (.int .i64 0)
  have hz := HS4.out.lt
  have hz1 := HT4.out.lt
  have hne : w.heap.size + 1 ≠ w.heap.size + 1 + 1 := by omega
  simp [Leaves, settle, results, Tryd.results21, go_sem, d0, d1, d2, d3, f0, f1, f2, f3]
  exact HE
set_option maxHeartbeats 1000000 in
theorem fixUlp_ok (neg : Bool) (n s : Nat) (w : World) (hs : s ≤ 19) (hn : n ≤ 9999999999999999999) :
    Calls Tryd.prog 23 #[.agg #[.bool neg, .int .u64 n, .int .i64 s]] w fun e w' => e = .returned (.tuple #[.agg #[.bool false, .int .u64 1, .int .i64 s], .int .i64 0]) ∧ Below w.heap.size w w' := by
  have hmf : ∀ (fn : Fn) (first cap : Array Value) (w : World), (Instr.makeFunc fn first cap).run Tryd.prog w = .ok (.func fn first cap) w := fun _ _ _ _ => rfl
  have HX := Lib.hid (fun W => fixed_ok neg n s W hs hn)
  generalize (neg && decide (0 < n)) = b at HX
  have HZ := Lib.hid (fun W => ulp_any b s n W hs)
  have HF := Lib.hid (fun W => fix_any false s 1 W hs)
  rw [show ((1 : Nat) : Int) = 1 from rfl] at HF
  have HS : Hid (St w (((w.alloc (.cells #[.bool neg, .int .u64 n, .int .i64 s] 32)).alloc (.cells #[.bool false, .int .u64 0, .int .i64 0] 32)).alloc (.cells #[.int .i64 0] 3))
      [(w.heap.size + 1, 0, .bool false), (w.heap.size + 1, 1, .int .u64 0), (w.heap.size + 1, 2, .int .i64 0)] (w.heap.size + 1) 3) :=
    St.call ⟨Cells.box3 (Cells.nil _) (by simp) _ _ _ _, fun o _ => free_box (by simp) _ _ _, by simp, ((Below.refl _ _).alloc (Nat.le_refl _) _).alloc (by simp) _⟩ ((Below.refl _ _).alloc (Nat.le_refl _) _)
  have HT : Hid (St w (((w.alloc (.cells #[.bool neg, .int .u64 n, .int .i64 s] 32)).alloc (.cells #[.bool false, .int .u64 0, .int .i64 0] 32)).alloc (.cells #[.int .i64 0] 3))
      [(w.heap.size + 1 + 1, 0, .int .i64 0)] (w.heap.size + 1 + 1) 1) :=
    ⟨Cells.box1 (Cells.nil _) (by simp) _ _, fun o _ => free_box (by simp) _ _ _, by simp, (((Below.refl _ _).alloc (Nat.le_refl _) _).alloc (by simp) _).alloc (by simp; omega) _⟩
  clear hs hn
  go_enter_defers Tryd.func23, Tryd.ntmps23
  go_wp2_with (first | (go_at_call 48; go_must (refine (HX.out _).mono ?_); rintro e w2 ⟨rfl, hb⟩; have HS2 := Lib.hid (HS.out.call hb); have HT2 := Lib.hid (HT.out.call hb); have HL2 := Lib.hid HS2.out.lt; have HL2' := Lib.hid HT2.out.lt; clear hb) | (go_at_call 53; go_must (refine (HZ.out _).mono ?_); rintro e w3 ⟨rfl, hb⟩; have hb1 := below_one _ hb; have HS3 := Lib.hid (HS2.out.call hb1); have HT3 := Lib.hid (HT2.out.call hb1); clear hb hb1) | (go_at_call 45; go_must (refine (HF.out _).mono ?_); rintro e w4 ⟨rfl, hb⟩; have HS4 := Lib.hid (HS3.out.call hb); have HT4 := Lib.hid (HT3.out.call hb); obtain ⟨d0, d1, d2, -⟩ := HS4.out.cells; obtain ⟨d3, -⟩ := HT4.out.cells; have f0 := HS4.out.free 0 (by omega); have f1 := HS4.out.free 1 (by omega); have f2 := HS4.out.free 2 (by omega); have f3 := HT4.out.free 0 (by omega); clear hb))
  refine leaves_cons (f := 52) (args := #[.pointer (some ⟨w.heap.size + 1, 0, none⟩), .pointer (some ⟨w.heap.size + 1 + 1, 0, none⟩)]) (by simp) (by simp [go_sem]) ?_
  refine (idle52 _ _ _).mono ?_
  rintro e u' w'' ⟨rfl, rfl, rfl⟩
  have HE := (((HS4.out.below.setCell (p := ⟨w.heap.size + 1, 0, none⟩) (Nat.le_succ _) (.bool false)).setCell (p := ⟨w.heap.size + 1, 1, none⟩) (Nat.le_succ _) (.int .u64 1)).setCell (p := ⟨w.heap.size + 1, 2, none⟩) (Nat.le_succ _) (.int .i64 s)).setCell (p := ⟨w.heap.size + 1 + 1, 0, none⟩) (by show w.heap.size ≤ w.heap.size + 1 + 1; omega) (.int .i64 0)
  have hz := HS4.out.lt
  have hz1 := HT4.out.lt
  have hne : w.heap.size + 1 ≠ w.heap.size + 1 + 1 := by omega
  simp [Leaves, settle, results, Tryd.results23, go_sem, d0, d1, d2, d3, f0, f1, f2, f3]
  exact HE
end Go.Proofs.YthkmgjkajllemaaDoor.Spec

/- 1 with the scale of a decimal of govalues. -/
namespace Go.Proofs.YthkmgjkajllemaaDoor.Spec
open Go.RowKit Go.Proofs.YthkmgjkajllemaaDoorW.PrintWords Go.Proofs.YthkmgjkajllemaaDoor.Make Go.Proofs.YthkmgjkajllemaaDoor.Fint
set_option linter.unusedVariables false
set_option linter.unusedSimpArgs false

set_option maxHeartbeats 1000000 in
theorem one_dec_any (b : Bool) (s n c : Nat) (w : World) (hs : s ≤ 19) (hp : w.cell? ⟨0, s, none⟩ = some (.int .u64 c)) (hc : 0 < c) :
    Calls Tryd.prog 51 #[.agg #[.bool b, .int .i8 s, .int .u64 n]] w fun e w' => e = .returned (.agg #[.bool false, .int .i8 s, .int .u64 c]) ∧ Below w.heap.size w w' := by
  have HC := Lib.hid (fun W => scale_any b s n W hs)
  have HU := Lib.hid (fun W => newUnsafe_any false c s W hs)
  rw [show (false && decide (0 < c)) = false from rfl] at HU
  have HS : Hid (St w ((w.alloc (.cells #[.bool b, .int .i8 s, .int .u64 n] 74)).alloc (.cells #[.bool false, .int .i8 0, .int .u64 0] 74))
      [(w.heap.size + 1, 0, .bool false), (w.heap.size + 1, 1, .int .i8 0), (w.heap.size + 1, 2, .int .u64 0), (w.heap.size, 0, .bool b), (w.heap.size, 1, .int .i8 s), (w.heap.size, 2, .int .u64 n), (0, s, .int .u64 c)] (w.heap.size + 1) 3) :=
    ⟨Cells.box3 (Cells.box3 (show Cells w [(0, s, .int .u64 c)] from ⟨hp, trivial⟩) rfl _ _ _ _) (by simp) _ _ _ _, fun o _ => free_box (by simp) _ _ _, by simp, ((Below.refl _ _).alloc (Nat.le_refl _) _).alloc (by simp) _⟩
  have h0 := World.block_lt_of_cell? w _ hp
  have hne : w.heap.size + 1 ≠ w.heap.size := by omega
  have hne0 : w.heap.size + 1 ≠ 0 := by omega
  have hs1 : (s : Int) < 20 := by omega
  clear hp hc h0 hs
  go_enter Tryd.func51, Tryd.ntmps51
  go_wp2
  obtain ⟨W, hW⟩ : ∃ W, (w.alloc (.cells #[.bool b, .int .i8 s, .int .u64 n] 74)).alloc (.cells #[.bool false, .int .i8 0, .int .u64 0] 74) = W := ⟨_, rfl⟩
  rw [hW] at HS ⊢
  clear hW
  have HS1 := Lib.hid (HS.out.call (below_drew (Below.refl _ _)))
  clear HS
  go_region_held3 (fun W' => W'.cell? ⟨w.heap.size, 0, none⟩ = some (.bool b) ∧ W'.cell? ⟨w.heap.size, 1, none⟩ = some (.int .i8 s) ∧ W'.cell? ⟨w.heap.size, 2, none⟩ = some (.int .u64 n) ∧ W'.cell? ⟨0, s, none⟩ = some (.int .u64 c))
    (first | exact (by have h := HS4.out.cells.2.2.2; exact ⟨h.1, h.2.1, h.2.2.1, h.2.2.2.1⟩) | exact (by have h := HS3.out.cells.2.2.2; exact ⟨h.1, h.2.1, h.2.2.1, h.2.2.2.1⟩) | exact (by have h := HS2.out.cells.2.2.2; exact ⟨h.1, h.2.1, h.2.2.1, h.2.2.2.1⟩) | exact (by have h := HS1.out.cells.2.2.2; exact ⟨h.1, h.2.1, h.2.2.1, h.2.2.2.1⟩) | go_keep)
    (first | (go_at_call 83; (refine (HC.out _).mono ?_); rintro e w2 ⟨rfl, hb⟩; first | (have HS3 := Lib.hid (HS2.out.call hb); clear hb) | (have HS2 := Lib.hid (HS1.out.call hb); clear hb)) | (go_at_call 85; (refine (HU.out _).mono ?_); rintro e w4 ⟨rfl, hb⟩; have HS4 := Lib.hid (HS3.out.call hb); obtain ⟨d0, d1, d2, -⟩ := HS4.out.cells; have f0 := HS4.out.free 0 (by omega); have f1 := HS4.out.free 1 (by omega); have f2 := HS4.out.free 2 (by omega); have hz := HS4.out.lt; clear hb))
  all_goals (go_wp2; exact bodyPost_ret (v := .agg #[.bool false, .int .i8 s, .int .u64 c]) (by simp [results, Tryd.results51, go_sem, d0, d1, d2, f0, f1, f2, hz]) rfl ⟨rfl, ((HS4.out.below.setCell (p := ⟨w.heap.size + 1, 0, none⟩) (Nat.le_succ _) _).setCell (p := ⟨w.heap.size + 1, 1, none⟩) (Nat.le_succ _) _).setCell (p := ⟨w.heap.size + 1, 2, none⟩) (Nat.le_succ _) _⟩)
set_option maxHeartbeats 1000000 in
theorem fixOne_ok (neg : Bool) (n s c : Nat) (w : World) (hs : s ≤ 19) (hn : n ≤ 9999999999999999999) (hp : w.cell? ⟨0, s, none⟩ = some (.int .u64 c)) (hc : 0 < c) :
    Calls Tryd.prog 22 #[.agg #[.bool neg, .int .u64 n, .int .i64 s]] w fun e w' => e = .returned (.tuple #[.agg #[.bool false, .int .u64 c, .int .i64 s], .int .i64 0]) ∧ Below w.heap.size w w' := by
  have hmf : ∀ (fn : Fn) (first cap : Array Value) (w : World), (Instr.makeFunc fn first cap).run Tryd.prog w = .ok (.func fn first cap) w := fun _ _ _ _ => rfl
  have HX := Lib.hid (fun W => fixed_ok neg n s W hs hn)
  generalize (neg && decide (0 < n)) = b at HX
  have HZ := Lib.hid (fun W hW => one_dec_any b s n c W hs hW hc)
  have HF := Lib.hid (fun W => fix_any false s c W hs)
  have HP := Lib.hid hp
  have HS : Hid (St w (((w.alloc (.cells #[.bool neg, .int .u64 n, .int .i64 s] 32)).alloc (.cells #[.bool false, .int .u64 0, .int .i64 0] 32)).alloc (.cells #[.int .i64 0] 3))
      [(w.heap.size + 1, 0, .bool false), (w.heap.size + 1, 1, .int .u64 0), (w.heap.size + 1, 2, .int .i64 0)] (w.heap.size + 1) 3) :=
    St.call ⟨Cells.box3 (Cells.nil _) (by simp) _ _ _ _, fun o _ => free_box (by simp) _ _ _, by simp, ((Below.refl _ _).alloc (Nat.le_refl _) _).alloc (by simp) _⟩ ((Below.refl _ _).alloc (Nat.le_refl _) _)
  have HT : Hid (St w (((w.alloc (.cells #[.bool neg, .int .u64 n, .int .i64 s] 32)).alloc (.cells #[.bool false, .int .u64 0, .int .i64 0] 32)).alloc (.cells #[.int .i64 0] 3))
      [(w.heap.size + 1 + 1, 0, .int .i64 0)] (w.heap.size + 1 + 1) 1) :=
    ⟨Cells.box1 (Cells.nil _) (by simp) _ _, fun o _ => free_box (by simp) _ _ _, by simp, (((Below.refl _ _).alloc (Nat.le_refl _) _).alloc (by simp) _).alloc (by simp; omega) _⟩
  clear hs hn hp hc
  go_enter_defers Tryd.func22, Tryd.ntmps22
  go_wp2_with (first | (go_at_call 48; go_must (refine (HX.out _).mono ?_); rintro e w2 ⟨rfl, hb⟩; have HS2 := Lib.hid (HS.out.call hb); have HT2 := Lib.hid (HT.out.call hb); have HL2 := Lib.hid HS2.out.lt; have HL2' := Lib.hid HT2.out.lt; clear hb) | (go_at_call 51; go_must (refine (HZ.out _ (old_at (pw_cell_below HS2.out.below HP.out) _)).mono ?_); rintro e w3 ⟨rfl, hb⟩; have hb1 := below_one _ hb; have HS3 := Lib.hid (HS2.out.call hb1); have HT3 := Lib.hid (HT2.out.call hb1); clear hb hb1) | (go_at_call 45; go_must (refine (HF.out _).mono ?_); rintro e w4 ⟨rfl, hb⟩; have HS4 := Lib.hid (HS3.out.call hb); have HT4 := Lib.hid (HT3.out.call hb); obtain ⟨d0, d1, d2, -⟩ := HS4.out.cells; obtain ⟨d3, -⟩ := HT4.out.cells; have f0 := HS4.out.free 0 (by omega); have f1 := HS4.out.free 1 (by omega); have f2 := HS4.out.free 2 (by omega); have f3 := HT4.out.free 0 (by omega); clear hb))
  refine leaves_cons (f := 50) (args := #[.pointer (some ⟨w.heap.size + 1, 0, none⟩), .pointer (some ⟨w.heap.size + 1 + 1, 0, none⟩)]) (by simp) (by simp [go_sem]) ?_
  refine (idle50 _ _ _).mono ?_
  rintro e u' w'' ⟨rfl, rfl, rfl⟩
  have HE := (((HS4.out.below.setCell (p := ⟨w.heap.size + 1, 0, none⟩) (Nat.le_succ _) (.bool false)).setCell (p := ⟨w.heap.size + 1, 1, none⟩) (Nat.le_succ _) (.int .u64 c)).setCell (p := ⟨w.heap.size + 1, 2, none⟩) (Nat.le_succ _) (.int .i64 s)).setCell (p := ⟨w.heap.size + 1 + 1, 0, none⟩) (by show w.heap.size ≤ w.heap.size + 1 + 1; omega) (.int .i64 0)
  have hz := HS4.out.lt
  have hz1 := HT4.out.lt
  have hne : w.heap.size + 1 ≠ w.heap.size + 1 + 1 := by omega
  simp [Leaves, settle, results, Tryd.results22, go_sem, d0, d1, d2, d3, f0, f1, f2, f3]
  exact HE
end Go.Proofs.YthkmgjkajllemaaDoor.Spec

/- Decimal.Ceil of govalues, and how the reference rounds a decimal up. -/
namespace Go.Proofs.YthkmgjkajllemaaDoor.Spec
open Go.RowKit Go.Proofs.YthkmgjkajllemaaDoorW.PrintWords Go.Proofs.YthkmgjkajllemaaDoorW.PrintMore Go.Proofs.YthkmgjkajllemaaDoor.Num Go.Proofs.YthkmgjkajllemaaDoor.Arith Go.Proofs.YthkmgjkajllemaaDoor.Make Go.Proofs.YthkmgjkajllemaaDoor.Fint
attribute [local go_sem] max2_int min2_int max_two min_two max_three min_three
set_option linter.unusedVariables false
set_option linter.unusedSimpArgs false

/-- What both sides divide by is cut down alike. -/
theorem shift_div (n t d : Nat) : n * 10 ^ t / 10 ^ (t + d) = n / 10 ^ d ∧ n * 10 ^ t % 10 ^ (t + d) = n % 10 ^ d * 10 ^ t := by
  have h : 0 < 10 ^ t := Nat.pow_pos (by decide)
  rw [Nat.add_comm, Nat.pow_add]
  exact ⟨Nat.mul_div_mul_right _ _ h, Nat.mul_mod_mul_right _ _ _⟩
theorem rnd_ceil (neg : Bool) (half : Int) (odd : Bool) : rnd 3 neg half odd = !neg := by
  unfold rnd Prounds.spec_rounds.f
  rfl
theorem rnd_even (neg : Bool) (half : Int) (odd : Bool) : rnd 5 neg half odd = (decide (0 < half) || (decide (half = 0) && odd)) := by
  unfold rnd Prounds.spec_rounds.f
  by_cases h : half > 0
  · simp [h]
  · by_cases h0 : half = 0
    · subst h0; simp
    · have : ¬ 0 < half := h
      simp [h, h0, this]
theorem rnd_cut (neg : Bool) (half : Int) (odd : Bool) : rnd 0 neg half odd = false := by
  unfold rnd Prounds.spec_rounds.f
  rfl
theorem rq_ceil (neg : Bool) (n t d : Nat) : rq 3 neg (n * 10 ^ t) (10 ^ (t + d)) = if neg then n / 10 ^ d else rUp n d := by
  have h := shift_div n t d
  have hp : 0 < 10 ^ t := Nat.pow_pos (by decide)
  unfold rq rUp
  rw [h.1, h.2, rnd_ceil]
  generalize n % 10 ^ d = r
  cases neg
  · by_cases hr : 0 < r
    · rw [if_pos ⟨Nat.mul_pos hr hp, rfl⟩, if_neg (by simp), if_pos hr]
    · obtain rfl : r = 0 := by omega
      simp
  · rw [if_neg (by simp), if_pos rfl]
theorem rq_even (neg : Bool) (n t d : Nat) (hd : 1 ≤ d) : rq 5 neg (n * 10 ^ t) (10 ^ (t + d)) = rEven n d := by
  have h := shift_div n t d
  have hp : 0 < 10 ^ t := Nat.pow_pos (by decide)
  have hc := (ten_le d hd).1
  unfold rq rEven
  rw [h.1, h.2, rnd_even]
  generalize n / 10 ^ d = q
  generalize n % 10 ^ d = r
  rw [Nat.add_comm t d, Nat.pow_add]
  generalize 10 ^ d = c at *
  generalize 10 ^ t = k at *
  have e1 : r * k + r * k = (2 * r) * k := by rw [Nat.mul_assoc, Nat.two_mul]
  rw [e1]
  have hcmp : cmp (2 * r * k) (c * k) = if 2 * r < c then -1 else if 2 * r = c then 0 else 1 := by
    unfold cmp
    by_cases h1 : 2 * r < c
    · rw [if_pos (Nat.mul_lt_mul_of_pos_right h1 hp), if_pos h1]
    · rw [if_neg (fun h2 => h1 (Nat.lt_of_mul_lt_mul_right h2)), if_neg h1]
      by_cases h2 : 2 * r = c
      · rw [h2, if_pos rfl, if_pos rfl]
      · rw [if_neg (fun h3 => h2 (Nat.eq_of_mul_eq_mul_right hp h3)), if_neg h2]
  rw [hcmp]
  by_cases h1 : 2 * r < c
  · rw [if_pos h1, if_neg (by simp), if_neg (by omega)]
  · rw [if_neg h1]
    by_cases h2 : 2 * r = c
    · rw [if_pos h2]
      have hr : 0 < r * k := Nat.mul_pos (by omega) hp
      by_cases ho : q % 2 = 1
      · rw [if_pos ⟨hr, by simp [ho]⟩, if_pos (.inr ⟨by omega, ho⟩)]
      · rw [if_neg (fun h => by have := h.2; simp [ho] at this), if_neg (by omega)]
    · rw [if_neg h2]
      have hr : 0 < r * k := Nat.mul_pos (by omega) hp
      rw [if_pos ⟨hr, by simp⟩, if_pos (.inl (by omega))]
theorem rq_exact (way : Int) (neg : Bool) (n s e : Nat) : rq way neg (n * 10 ^ (s + e)) (10 ^ s) = n * 10 ^ e := by
  have hp : 0 < 10 ^ s := Nat.pow_pos (by decide)
  have e1 : n * 10 ^ (s + e) = n * 10 ^ e * 10 ^ s := by rw [Nat.add_comm, Nat.pow_add, Nat.mul_assoc]
  unfold rq
  rw [e1, Nat.mul_mod_left, Nat.mul_div_cancel _ hp, if_neg (by omega)]
theorem rq_cut (neg : Bool) (n d : Nat) : rq 0 neg n d = n / d := by
  unfold rq
  rw [rnd_cut, if_neg (by simp)]

theorem isNeg_any (b : Bool) (s n : Nat) (w : World) :
    Calls Tryd.prog 81 #[.agg #[.bool b, .int .i8 s, .int .u64 n]] w fun e w' => e = .returned (.bool b) ∧ Below w.heap.size w w' := by
  go_enter Tryd.func81, Tryd.ntmps81
  go_wp2
  go_ret
  exact ⟨rfl, (Below.refl _ _).alloc (Nat.le_refl _) _⟩

set_option maxHeartbeats 1000000 in
theorem ceil_stay_neg (b : Bool) (n s : Nat) (w : World) (hs : s ≤ 19) (z : Int) (hz0 : z < 0) (hz1 : z ≥ -9223372036854775808) (h0 : s = 0) :
    Calls Tryd.prog 64 #[.agg #[.bool b, .int .i8 s, .int .u64 n], .int .i64 z] w fun e w' => e = .returned (.agg #[.bool b, .int .i8 s, .int .u64 n]) ∧ Below w.heap.size w w' := by
  have HC := Lib.hid (fun W => scale_any b s n W hs)
  have HS : Hid (St w ((w.alloc (.cells #[.bool b, .int .i8 s, .int .u64 n] 74)).alloc (.cells #[.bool false, .int .i8 0, .int .u64 0] 74))
      [(w.heap.size + 1, 0, .bool false), (w.heap.size + 1, 1, .int .i8 0), (w.heap.size + 1, 2, .int .u64 0), (w.heap.size, 0, .bool b), (w.heap.size, 1, .int .i8 s), (w.heap.size, 2, .int .u64 n)] (w.heap.size + 1) 3) :=
    ⟨Cells.box3 (Cells.box3 (Cells.nil _) rfl _ _ _ _) (by simp) _ _ _ _, fun o _ => free_box (by simp) _ _ _, by simp, ((Below.refl _ _).alloc (Nat.le_refl _) _).alloc (by simp) _⟩
  have hne : w.heap.size + 1 ≠ w.heap.size := by omega
  subst h0
  rw [show ((0 : Nat) : Int) = 0 from rfl] at HC HS ⊢
  clear hs
  go_enter Tryd.func64, Tryd.ntmps64
  go_wp2_with (first | (go_at_call 83; go_must (refine (HC.out _).mono ?_); rintro e w2 ⟨rfl, hb⟩; have HS2 := Lib.hid (HS.out.call hb); obtain ⟨d0, d1, d2, a0, a1, a2, -⟩ := HS2.out.cells; have f0 := HS2.out.free 0 (by omega); have f1 := HS2.out.free 1 (by omega); have f2 := HS2.out.free 2 (by omega); have hz := HS2.out.lt; clear hb))
  exact bodyPost_ret (v := .agg #[.bool b, .int .i8 0, .int .u64 n]) (by simp [results, Tryd.results64, go_sem, d0, d1, d2, f0, f1, f2, hz]) rfl ⟨rfl, ((HS2.out.below.setCell (p := ⟨w.heap.size + 1, 0, none⟩) (Nat.le_succ _) _).setCell (p := ⟨w.heap.size + 1, 1, none⟩) (Nat.le_succ _) _).setCell (p := ⟨w.heap.size + 1, 2, none⟩) (Nat.le_succ _) _⟩
set_option maxHeartbeats 1000000 in
theorem ceil_stay_nat (b : Bool) (n s : Nat) (w : World) (hs : s ≤ 19) (k : Nat) (hk : s ≤ k) :
    Calls Tryd.prog 64 #[.agg #[.bool b, .int .i8 s, .int .u64 n], .int .i64 (k : Int)] w fun e w' => e = .returned (.agg #[.bool b, .int .i8 s, .int .u64 n]) ∧ Below w.heap.size w w' := by
  have HC := Lib.hid (fun W => scale_any b s n W hs)
  have HS : Hid (St w ((w.alloc (.cells #[.bool b, .int .i8 s, .int .u64 n] 74)).alloc (.cells #[.bool false, .int .i8 0, .int .u64 0] 74))
      [(w.heap.size + 1, 0, .bool false), (w.heap.size + 1, 1, .int .i8 0), (w.heap.size + 1, 2, .int .u64 0), (w.heap.size, 0, .bool b), (w.heap.size, 1, .int .i8 s), (w.heap.size, 2, .int .u64 n)] (w.heap.size + 1) 3) :=
    ⟨Cells.box3 (Cells.box3 (Cells.nil _) rfl _ _ _ _) (by simp) _ _ _ _, fun o _ => free_box (by simp) _ _ _, by simp, ((Below.refl _ _).alloc (Nat.le_refl _) _).alloc (by simp) _⟩
  have hne : w.heap.size + 1 ≠ w.heap.size := by omega
  have hk0 : ¬ ((k : Int) < 0) := by omega
  have hk1 : decide ((s : Int) ≤ (k : Int)) = true := decide_eq_true (by omega)
  have hk2 : decide (s ≤ k) = true := decide_eq_true hk
  clear hs
  go_enter Tryd.func64, Tryd.ntmps64
  go_wp2_with (first | (go_at_call 83; go_must (refine (HC.out _).mono ?_); rintro e w2 ⟨rfl, hb⟩; have HS2 := Lib.hid (HS.out.call hb); obtain ⟨d0, d1, d2, a0, a1, a2, -⟩ := HS2.out.cells; have f0 := HS2.out.free 0 (by omega); have f1 := HS2.out.free 1 (by omega); have f2 := HS2.out.free 2 (by omega); have hz := HS2.out.lt; clear hb))
  exact bodyPost_ret (v := .agg #[.bool b, .int .i8 s, .int .u64 n]) (by simp [results, Tryd.results64, go_sem, d0, d1, d2, f0, f1, f2, hz]) rfl ⟨rfl, ((HS2.out.below.setCell (p := ⟨w.heap.size + 1, 0, none⟩) (Nat.le_succ _) _).setCell (p := ⟨w.heap.size + 1, 1, none⟩) (Nat.le_succ _) _).setCell (p := ⟨w.heap.size + 1, 2, none⟩) (Nat.le_succ _) _⟩
set_option maxHeartbeats 2000000 in
theorem ceil_neg_up (b : Bool) (n s : Nat) (w : World) (hs : s ≤ 19) (hn : n ≤ 9999999999999999999) (z : Int) (hz0 : z < 0) (hz1 : z ≥ -9223372036854775808) (h0 : 0 < s) (hb : b = false) (hp : w.cell? ⟨0, s - 0, none⟩ = some (.int .u64 ((10 ^ (s - 0) : Nat) : Int))) :
    Calls Tryd.prog 64 #[.agg #[.bool b, .int .i8 s, .int .u64 n], .int .i64 z] w fun e w' => e = .returned (.agg #[.bool (b && decide (0 < rUp n (s - 0))), .int .i8 (0 : Int), .int .u64 ((rUp n (s - 0) : Nat) : Int)]) ∧ Below w.heap.size w w' := by
  subst hb
  have HC := Lib.hid (fun W => scale_any false s n W hs)
  have HN := Lib.hid (fun W => isNeg_any false s n W)
  obtain ⟨d, hd⟩ : ∃ d, s - 0 = d := ⟨_, rfl⟩
  rw [hd] at hp ⊢
  have HR := Lib.hid (fun W h => rshUp_any n d W hn (by omega) (by omega) h)
  have HP := Lib.hid (fun (W : World) (hb : Below w.heap.size w W) => pw_cell_below hb hp)
  have HU := Lib.hid (fun W => newUnsafe_any false ((rUp n d)) 0 W (by omega))
  generalize hm : (rUp n d) = m at *
  generalize hbm : (false && decide (0 < m)) = bm at *
  obtain rfl : s = d := by omega
  rw [show ((0 : Nat) : Int) = 0 from rfl] at HU
  have hk1 : decide ((s : Int) ≤ 0) = false := decide_eq_false (by omega)
  have hk2 : decide (s = 0) = false := decide_eq_false (by omega)
  have HS : Hid (St w ((w.alloc (.cells #[.bool false, .int .i8 s, .int .u64 n] 74)).alloc (.cells #[.bool false, .int .i8 0, .int .u64 0] 74))
      [(w.heap.size + 1, 0, .bool false), (w.heap.size + 1, 1, .int .i8 0), (w.heap.size + 1, 2, .int .u64 0), (w.heap.size, 0, .bool false), (w.heap.size, 1, .int .i8 s), (w.heap.size, 2, .int .u64 n)] (w.heap.size + 1) 3) :=
    ⟨Cells.box3 (Cells.box3 (Cells.nil _) rfl _ _ _ _) (by simp) _ _ _ _, fun o _ => free_box (by simp) _ _ _, by simp, ((Below.refl _ _).alloc (Nat.le_refl _) _).alloc (by simp) _⟩
  have hne : w.heap.size + 1 ≠ w.heap.size := by omega
  clear hp hn hm hbm hd h0
  go_enter Tryd.func64, Tryd.ntmps64
  go_wp2_with (first | (go_at_call 83; go_must (refine (HC.out _).mono ?_); rintro e w2 ⟨rfl, hb⟩; first | (have HS4 := Lib.hid (HS3.out.call hb); obtain ⟨d04, d14, d24, a04, a14, a24, -⟩ := HS4.out.cells; clear hb) | (have HS2 := Lib.hid (HS.out.call hb); obtain ⟨d02, d12, d22, a02, a12, a22, -⟩ := HS2.out.cells; clear hb)) | (go_at_call 81; go_must (refine (HN.out _).mono ?_); rintro e w3 ⟨rfl, hb⟩; first | (have HS6 := Lib.hid (HS5.out.call hb); clear hb) | (have HS3 := Lib.hid (HS2.out.call hb); obtain ⟨d03, d13, d23, a03, a13, a23, -⟩ := HS3.out.cells; clear hb)) | (go_at_call 90; go_must (refine (HR.out _ (HP.out _ HS4.out.below)).mono ?_); rintro e w5 ⟨rfl, hb⟩; have HS5 := Lib.hid (HS4.out.call hb); obtain ⟨d05, d15, d25, a05, a15, a25, -⟩ := HS5.out.cells; clear hb) | (go_at_call 85; go_must (refine (HU.out _).mono ?_); rintro e w7 ⟨rfl, hb⟩; have HS7 := Lib.hid (HS6.out.call hb); obtain ⟨d0, d1, d2, -⟩ := HS7.out.cells; have f0 := HS7.out.free 0 (by omega); have f1 := HS7.out.free 1 (by omega); have f2 := HS7.out.free 2 (by omega); have hz := HS7.out.lt; clear hb))
  exact bodyPost_ret (v := .agg #[.bool bm, .int .i8 0, .int .u64 m]) (by simp [results, Tryd.results64, go_sem, d0, d1, d2, f0, f1, f2, hz]) rfl ⟨rfl, ((HS7.out.below.setCell (p := ⟨w.heap.size + 1, 0, none⟩) (Nat.le_succ _) _).setCell (p := ⟨w.heap.size + 1, 1, none⟩) (Nat.le_succ _) _).setCell (p := ⟨w.heap.size + 1, 2, none⟩) (Nat.le_succ _) _⟩
set_option maxHeartbeats 2000000 in
theorem ceil_neg_down (b : Bool) (n s : Nat) (w : World) (hs : s ≤ 19) (hn : n ≤ 9999999999999999999) (z : Int) (hz0 : z < 0) (hz1 : z ≥ -9223372036854775808) (h0 : 0 < s) (hb : b = true) (hp : w.cell? ⟨0, s - 0, none⟩ = some (.int .u64 ((10 ^ (s - 0) : Nat) : Int))) :
    Calls Tryd.prog 64 #[.agg #[.bool b, .int .i8 s, .int .u64 n], .int .i64 z] w fun e w' => e = .returned (.agg #[.bool (b && decide (0 < n / 10 ^ (s - 0))), .int .i8 (0 : Int), .int .u64 ((n / 10 ^ (s - 0) : Nat) : Int)]) ∧ Below w.heap.size w w' := by
  subst hb
  have HC := Lib.hid (fun W => scale_any true s n W hs)
  have HN := Lib.hid (fun W => isNeg_any true s n W)
  obtain ⟨d, hd⟩ : ∃ d, s - 0 = d := ⟨_, rfl⟩
  rw [hd] at hp ⊢
  have HR := Lib.hid (fun W h => rshDown_any n d W hn (by omega) (by omega) h)
  have HP := Lib.hid (fun (W : World) (hb : Below w.heap.size w W) => pw_cell_below hb hp)
  have HU := Lib.hid (fun W => newUnsafe_any true ((n / 10 ^ d)) 0 W (by omega))
  generalize hm : (n / 10 ^ d) = m at *
  generalize hbm : (true && decide (0 < m)) = bm at *
  obtain rfl : s = d := by omega
  rw [show ((0 : Nat) : Int) = 0 from rfl] at HU
  have hk1 : decide ((s : Int) ≤ 0) = false := decide_eq_false (by omega)
  have hk2 : decide (s = 0) = false := decide_eq_false (by omega)
  have HS : Hid (St w ((w.alloc (.cells #[.bool true, .int .i8 s, .int .u64 n] 74)).alloc (.cells #[.bool false, .int .i8 0, .int .u64 0] 74))
      [(w.heap.size + 1, 0, .bool false), (w.heap.size + 1, 1, .int .i8 0), (w.heap.size + 1, 2, .int .u64 0), (w.heap.size, 0, .bool true), (w.heap.size, 1, .int .i8 s), (w.heap.size, 2, .int .u64 n)] (w.heap.size + 1) 3) :=
    ⟨Cells.box3 (Cells.box3 (Cells.nil _) rfl _ _ _ _) (by simp) _ _ _ _, fun o _ => free_box (by simp) _ _ _, by simp, ((Below.refl _ _).alloc (Nat.le_refl _) _).alloc (by simp) _⟩
  have hne : w.heap.size + 1 ≠ w.heap.size := by omega
  clear hp hn hm hbm hd h0
  go_enter Tryd.func64, Tryd.ntmps64
  go_wp2_with (first | (go_at_call 83; go_must (refine (HC.out _).mono ?_); rintro e w2 ⟨rfl, hb⟩; first | (have HS4 := Lib.hid (HS3.out.call hb); obtain ⟨d04, d14, d24, a04, a14, a24, -⟩ := HS4.out.cells; clear hb) | (have HS2 := Lib.hid (HS.out.call hb); obtain ⟨d02, d12, d22, a02, a12, a22, -⟩ := HS2.out.cells; clear hb)) | (go_at_call 81; go_must (refine (HN.out _).mono ?_); rintro e w3 ⟨rfl, hb⟩; first | (have HS6 := Lib.hid (HS5.out.call hb); clear hb) | (have HS3 := Lib.hid (HS2.out.call hb); obtain ⟨d03, d13, d23, a03, a13, a23, -⟩ := HS3.out.cells; clear hb)) | (go_at_call 89; go_must (refine (HR.out _ (HP.out _ HS4.out.below)).mono ?_); rintro e w5 ⟨rfl, hb⟩; have HS5 := Lib.hid (HS4.out.call hb); obtain ⟨d05, d15, d25, a05, a15, a25, -⟩ := HS5.out.cells; clear hb) | (go_at_call 85; go_must (refine (HU.out _).mono ?_); rintro e w7 ⟨rfl, hb⟩; have HS7 := Lib.hid (HS6.out.call hb); obtain ⟨d0, d1, d2, -⟩ := HS7.out.cells; have f0 := HS7.out.free 0 (by omega); have f1 := HS7.out.free 1 (by omega); have f2 := HS7.out.free 2 (by omega); have hz := HS7.out.lt; clear hb))
  exact bodyPost_ret (v := .agg #[.bool bm, .int .i8 0, .int .u64 m]) (by simp [results, Tryd.results64, go_sem, d0, d1, d2, f0, f1, f2, hz]) rfl ⟨rfl, ((HS7.out.below.setCell (p := ⟨w.heap.size + 1, 0, none⟩) (Nat.le_succ _) _).setCell (p := ⟨w.heap.size + 1, 1, none⟩) (Nat.le_succ _) _).setCell (p := ⟨w.heap.size + 1, 2, none⟩) (Nat.le_succ _) _⟩
set_option maxHeartbeats 2000000 in
theorem ceil_nat_up (b : Bool) (n s : Nat) (w : World) (hs : s ≤ 19) (hn : n ≤ 9999999999999999999) (k : Nat) (hk : k < s) (hb : b = false) (hp : w.cell? ⟨0, s - k, none⟩ = some (.int .u64 ((10 ^ (s - k) : Nat) : Int))) :
    Calls Tryd.prog 64 #[.agg #[.bool b, .int .i8 s, .int .u64 n], .int .i64 (k : Int)] w fun e w' => e = .returned (.agg #[.bool (b && decide (0 < rUp n (s - k))), .int .i8 (k : Int), .int .u64 ((rUp n (s - k) : Nat) : Int)]) ∧ Below w.heap.size w w' := by
  subst hb
  have HC := Lib.hid (fun W => scale_any false s n W hs)
  have HN := Lib.hid (fun W => isNeg_any false s n W)
  obtain ⟨d, hd⟩ : ∃ d, s - k = d := ⟨_, rfl⟩
  rw [hd] at hp ⊢
  have HR := Lib.hid (fun W h => rshUp_any n d W hn (by omega) (by omega) h)
  have HP := Lib.hid (fun (W : World) (hb : Below w.heap.size w W) => pw_cell_below hb hp)
  have HU := Lib.hid (fun W => newUnsafe_any false ((rUp n d)) k W (by omega))
  generalize hm : (rUp n d) = m at *
  generalize hbm : (false && decide (0 < m)) = bm at *
  have hk0 : ¬ ((k : Int) < 0) := by omega
  have hk1 : decide ((s : Int) ≤ (k : Int)) = false := decide_eq_false (by omega)
  have hk2 : decide (s ≤ k) = false := decide_eq_false (by omega)
  have hsd : (s : Int) - (k : Int) = (d : Int) := by omega
  have hsk : k ≤ s := by omega
  have HS : Hid (St w ((w.alloc (.cells #[.bool false, .int .i8 s, .int .u64 n] 74)).alloc (.cells #[.bool false, .int .i8 0, .int .u64 0] 74))
      [(w.heap.size + 1, 0, .bool false), (w.heap.size + 1, 1, .int .i8 0), (w.heap.size + 1, 2, .int .u64 0), (w.heap.size, 0, .bool false), (w.heap.size, 1, .int .i8 s), (w.heap.size, 2, .int .u64 n)] (w.heap.size + 1) 3) :=
    ⟨Cells.box3 (Cells.box3 (Cells.nil _) rfl _ _ _ _) (by simp) _ _ _ _, fun o _ => free_box (by simp) _ _ _, by simp, ((Below.refl _ _).alloc (Nat.le_refl _) _).alloc (by simp) _⟩
  have hne : w.heap.size + 1 ≠ w.heap.size := by omega
  clear hp hn hm hbm hd hk
  go_enter Tryd.func64, Tryd.ntmps64
  go_wp2_with (first | (go_at_call 83; go_must (refine (HC.out _).mono ?_); rintro e w2 ⟨rfl, hb⟩; first | (have HS4 := Lib.hid (HS3.out.call hb); obtain ⟨d04, d14, d24, a04, a14, a24, -⟩ := HS4.out.cells; clear hb) | (have HS2 := Lib.hid (HS.out.call hb); obtain ⟨d02, d12, d22, a02, a12, a22, -⟩ := HS2.out.cells; clear hb)) | (go_at_call 81; go_must (refine (HN.out _).mono ?_); rintro e w3 ⟨rfl, hb⟩; first | (have HS6 := Lib.hid (HS5.out.call hb); clear hb) | (have HS3 := Lib.hid (HS2.out.call hb); obtain ⟨d03, d13, d23, a03, a13, a23, -⟩ := HS3.out.cells; clear hb)) | (go_at_call 90; go_must (refine (HR.out _ (HP.out _ HS4.out.below)).mono ?_); rintro e w5 ⟨rfl, hb⟩; have HS5 := Lib.hid (HS4.out.call hb); obtain ⟨d05, d15, d25, a05, a15, a25, -⟩ := HS5.out.cells; clear hb) | (go_at_call 85; go_must (refine (HU.out _).mono ?_); rintro e w7 ⟨rfl, hb⟩; have HS7 := Lib.hid (HS6.out.call hb); obtain ⟨d0, d1, d2, -⟩ := HS7.out.cells; have f0 := HS7.out.free 0 (by omega); have f1 := HS7.out.free 1 (by omega); have f2 := HS7.out.free 2 (by omega); have hz := HS7.out.lt; clear hb))
  exact bodyPost_ret (v := .agg #[.bool bm, .int .i8 k, .int .u64 m]) (by simp [results, Tryd.results64, go_sem, d0, d1, d2, f0, f1, f2, hz]) rfl ⟨rfl, ((HS7.out.below.setCell (p := ⟨w.heap.size + 1, 0, none⟩) (Nat.le_succ _) _).setCell (p := ⟨w.heap.size + 1, 1, none⟩) (Nat.le_succ _) _).setCell (p := ⟨w.heap.size + 1, 2, none⟩) (Nat.le_succ _) _⟩
set_option maxHeartbeats 2000000 in
theorem ceil_nat_down (b : Bool) (n s : Nat) (w : World) (hs : s ≤ 19) (hn : n ≤ 9999999999999999999) (k : Nat) (hk : k < s) (hb : b = true) (hp : w.cell? ⟨0, s - k, none⟩ = some (.int .u64 ((10 ^ (s - k) : Nat) : Int))) :
    Calls Tryd.prog 64 #[.agg #[.bool b, .int .i8 s, .int .u64 n], .int .i64 (k : Int)] w fun e w' => e = .returned (.agg #[.bool (b && decide (0 < n / 10 ^ (s - k))), .int .i8 (k : Int), .int .u64 ((n / 10 ^ (s - k) : Nat) : Int)]) ∧ Below w.heap.size w w' := by
  subst hb
  have HC := Lib.hid (fun W => scale_any true s n W hs)
  have HN := Lib.hid (fun W => isNeg_any true s n W)
  obtain ⟨d, hd⟩ : ∃ d, s - k = d := ⟨_, rfl⟩
  rw [hd] at hp ⊢
  have HR := Lib.hid (fun W h => rshDown_any n d W hn (by omega) (by omega) h)
  have HP := Lib.hid (fun (W : World) (hb : Below w.heap.size w W) => pw_cell_below hb hp)
  have HU := Lib.hid (fun W => newUnsafe_any true ((n / 10 ^ d)) k W (by omega))
  generalize hm : (n / 10 ^ d) = m at *
  generalize hbm : (true && decide (0 < m)) = bm at *
  have hk0 : ¬ ((k : Int) < 0) := by omega
  have hk1 : decide ((s : Int) ≤ (k : Int)) = false := decide_eq_false (by omega)
  have hk2 : decide (s ≤ k) = false := decide_eq_false (by omega)
  have hsd : (s : Int) - (k : Int) = (d : Int) := by omega
  have hsk : k ≤ s := by omega
  have HS : Hid (St w ((w.alloc (.cells #[.bool true, .int .i8 s, .int .u64 n] 74)).alloc (.cells #[.bool false, .int .i8 0, .int .u64 0] 74))
      [(w.heap.size + 1, 0, .bool false), (w.heap.size + 1, 1, .int .i8 0), (w.heap.size + 1, 2, .int .u64 0), (w.heap.size, 0, .bool true), (w.heap.size, 1, .int .i8 s), (w.heap.size, 2, .int .u64 n)] (w.heap.size + 1) 3) :=
    ⟨Cells.box3 (Cells.box3 (Cells.nil _) rfl _ _ _ _) (by simp) _ _ _ _, fun o _ => free_box (by simp) _ _ _, by simp, ((Below.refl _ _).alloc (Nat.le_refl _) _).alloc (by simp) _⟩
  have hne : w.heap.size + 1 ≠ w.heap.size := by omega
  clear hp hn hm hbm hd hk
  go_enter Tryd.func64, Tryd.ntmps64
  go_wp2_with (first | (go_at_call 83; go_must (refine (HC.out _).mono ?_); rintro e w2 ⟨rfl, hb⟩; first | (have HS4 := Lib.hid (HS3.out.call hb); obtain ⟨d04, d14, d24, a04, a14, a24, -⟩ := HS4.out.cells; clear hb) | (have HS2 := Lib.hid (HS.out.call hb); obtain ⟨d02, d12, d22, a02, a12, a22, -⟩ := HS2.out.cells; clear hb)) | (go_at_call 81; go_must (refine (HN.out _).mono ?_); rintro e w3 ⟨rfl, hb⟩; first | (have HS6 := Lib.hid (HS5.out.call hb); clear hb) | (have HS3 := Lib.hid (HS2.out.call hb); obtain ⟨d03, d13, d23, a03, a13, a23, -⟩ := HS3.out.cells; clear hb)) | (go_at_call 89; go_must (refine (HR.out _ (HP.out _ HS4.out.below)).mono ?_); rintro e w5 ⟨rfl, hb⟩; have HS5 := Lib.hid (HS4.out.call hb); obtain ⟨d05, d15, d25, a05, a15, a25, -⟩ := HS5.out.cells; clear hb) | (go_at_call 85; go_must (refine (HU.out _).mono ?_); rintro e w7 ⟨rfl, hb⟩; have HS7 := Lib.hid (HS6.out.call hb); obtain ⟨d0, d1, d2, -⟩ := HS7.out.cells; have f0 := HS7.out.free 0 (by omega); have f1 := HS7.out.free 1 (by omega); have f2 := HS7.out.free 2 (by omega); have hz := HS7.out.lt; clear hb))
  exact bodyPost_ret (v := .agg #[.bool bm, .int .i8 k, .int .u64 m]) (by simp [results, Tryd.results64, go_sem, d0, d1, d2, f0, f1, f2, hz]) rfl ⟨rfl, ((HS7.out.below.setCell (p := ⟨w.heap.size + 1, 0, none⟩) (Nat.le_succ _) _).setCell (p := ⟨w.heap.size + 1, 1, none⟩) (Nat.le_succ _) _).setCell (p := ⟨w.heap.size + 1, 2, none⟩) (Nat.le_succ _) _⟩
end Go.Proofs.YthkmgjkajllemaaDoor.Spec

/- Decimal.Round of govalues. -/
namespace Go.Proofs.YthkmgjkajllemaaDoor.Spec
open Go.RowKit Go.Proofs.YthkmgjkajllemaaDoorW.PrintWords Go.Proofs.YthkmgjkajllemaaDoorW.PrintMore Go.Proofs.YthkmgjkajllemaaDoor.Num Go.Proofs.YthkmgjkajllemaaDoor.Arith Go.Proofs.YthkmgjkajllemaaDoor.Make Go.Proofs.YthkmgjkajllemaaDoor.Fint
attribute [local go_sem] max2_int min2_int max_two min_two max_three min_three
set_option linter.unusedVariables false
set_option linter.unusedSimpArgs false

set_option maxHeartbeats 1000000 in
theorem round95_stay_neg (b : Bool) (n s : Nat) (w : World) (hs : s ≤ 19) (z : Int) (hz0 : z < 0) (hz1 : z ≥ -9223372036854775808) (h0 : s = 0) :
    Calls Tryd.prog 95 #[.agg #[.bool b, .int .i8 s, .int .u64 n], .int .i64 z] w fun e w' => e = .returned (.agg #[.bool b, .int .i8 s, .int .u64 n]) ∧ Below w.heap.size w w' := by
  have HC := Lib.hid (fun W => scale_any b s n W hs)
  have HS : Hid (St w ((w.alloc (.cells #[.bool b, .int .i8 s, .int .u64 n] 74)).alloc (.cells #[.bool false, .int .i8 0, .int .u64 0] 74))
      [(w.heap.size + 1, 0, .bool false), (w.heap.size + 1, 1, .int .i8 0), (w.heap.size + 1, 2, .int .u64 0), (w.heap.size, 0, .bool b), (w.heap.size, 1, .int .i8 s), (w.heap.size, 2, .int .u64 n)] (w.heap.size + 1) 3) :=
    ⟨Cells.box3 (Cells.box3 (Cells.nil _) rfl _ _ _ _) (by simp) _ _ _ _, fun o _ => free_box (by simp) _ _ _, by simp, ((Below.refl _ _).alloc (Nat.le_refl _) _).alloc (by simp) _⟩
  have hne : w.heap.size + 1 ≠ w.heap.size := by omega
  subst h0
  rw [show ((0 : Nat) : Int) = 0 from rfl] at HC HS ⊢
  clear hs
  go_enter Tryd.func95, Tryd.ntmps95
  go_wp2_with (first | (go_at_call 83; go_must (refine (HC.out _).mono ?_); rintro e w2 ⟨rfl, hb⟩; have HS2 := Lib.hid (HS.out.call hb); obtain ⟨d0, d1, d2, a0, a1, a2, -⟩ := HS2.out.cells; have f0 := HS2.out.free 0 (by omega); have f1 := HS2.out.free 1 (by omega); have f2 := HS2.out.free 2 (by omega); have hz := HS2.out.lt; clear hb))
  exact bodyPost_ret (v := .agg #[.bool b, .int .i8 0, .int .u64 n]) (by simp [results, Tryd.results95, go_sem, d0, d1, d2, f0, f1, f2, hz]) rfl ⟨rfl, ((HS2.out.below.setCell (p := ⟨w.heap.size + 1, 0, none⟩) (Nat.le_succ _) _).setCell (p := ⟨w.heap.size + 1, 1, none⟩) (Nat.le_succ _) _).setCell (p := ⟨w.heap.size + 1, 2, none⟩) (Nat.le_succ _) _⟩
set_option maxHeartbeats 1000000 in
theorem round95_stay_nat (b : Bool) (n s : Nat) (w : World) (hs : s ≤ 19) (k : Nat) (hk : s ≤ k) :
    Calls Tryd.prog 95 #[.agg #[.bool b, .int .i8 s, .int .u64 n], .int .i64 (k : Int)] w fun e w' => e = .returned (.agg #[.bool b, .int .i8 s, .int .u64 n]) ∧ Below w.heap.size w w' := by
  have HC := Lib.hid (fun W => scale_any b s n W hs)
  have HS : Hid (St w ((w.alloc (.cells #[.bool b, .int .i8 s, .int .u64 n] 74)).alloc (.cells #[.bool false, .int .i8 0, .int .u64 0] 74))
      [(w.heap.size + 1, 0, .bool false), (w.heap.size + 1, 1, .int .i8 0), (w.heap.size + 1, 2, .int .u64 0), (w.heap.size, 0, .bool b), (w.heap.size, 1, .int .i8 s), (w.heap.size, 2, .int .u64 n)] (w.heap.size + 1) 3) :=
    ⟨Cells.box3 (Cells.box3 (Cells.nil _) rfl _ _ _ _) (by simp) _ _ _ _, fun o _ => free_box (by simp) _ _ _, by simp, ((Below.refl _ _).alloc (Nat.le_refl _) _).alloc (by simp) _⟩
  have hne : w.heap.size + 1 ≠ w.heap.size := by omega
  have hk0 : ¬ ((k : Int) < 0) := by omega
  have hk1 : decide ((s : Int) ≤ (k : Int)) = true := decide_eq_true (by omega)
  have hk2 : decide (s ≤ k) = true := decide_eq_true hk
  clear hs
  go_enter Tryd.func95, Tryd.ntmps95
  go_wp2_with (first | (go_at_call 83; go_must (refine (HC.out _).mono ?_); rintro e w2 ⟨rfl, hb⟩; have HS2 := Lib.hid (HS.out.call hb); obtain ⟨d0, d1, d2, a0, a1, a2, -⟩ := HS2.out.cells; have f0 := HS2.out.free 0 (by omega); have f1 := HS2.out.free 1 (by omega); have f2 := HS2.out.free 2 (by omega); have hz := HS2.out.lt; clear hb))
  exact bodyPost_ret (v := .agg #[.bool b, .int .i8 s, .int .u64 n]) (by simp [results, Tryd.results95, go_sem, d0, d1, d2, f0, f1, f2, hz]) rfl ⟨rfl, ((HS2.out.below.setCell (p := ⟨w.heap.size + 1, 0, none⟩) (Nat.le_succ _) _).setCell (p := ⟨w.heap.size + 1, 1, none⟩) (Nat.le_succ _) _).setCell (p := ⟨w.heap.size + 1, 2, none⟩) (Nat.le_succ _) _⟩
set_option maxHeartbeats 2000000 in
theorem round95_neg (b : Bool) (n s : Nat) (w : World) (hs : s ≤ 19) (hn : n ≤ 9999999999999999999) (z : Int) (hz0 : z < 0) (hz1 : z ≥ -9223372036854775808) (h0 : 0 < s)  (hp : w.cell? ⟨0, s - 0, none⟩ = some (.int .u64 ((10 ^ (s - 0) : Nat) : Int))) :
    Calls Tryd.prog 95 #[.agg #[.bool b, .int .i8 s, .int .u64 n], .int .i64 z] w fun e w' => e = .returned (.agg #[.bool (b && decide (0 < rEven n (s - 0))), .int .i8 (0 : Int), .int .u64 ((rEven n (s - 0) : Nat) : Int)]) ∧ Below w.heap.size w w' := by
  have HC := Lib.hid (fun W => scale_any b s n W hs)
  have HN := Lib.hid (fun W => isNeg_any b s n W)
  obtain ⟨d, hd⟩ : ∃ d, s - 0 = d := ⟨_, rfl⟩
  rw [hd] at hp ⊢
  have HR := Lib.hid (fun W h => rshEven_any n d W hn (by omega) (by omega) h)
  have HP := Lib.hid (fun (W : World) (hb : Below w.heap.size w W) => pw_cell_below hb hp)
  have HU := Lib.hid (fun W => newUnsafe_any b ((rEven n d)) 0 W (by omega))
  generalize hm : (rEven n d) = m at *
  generalize hbm : (b && decide (0 < m)) = bm at *
  obtain rfl : s = d := by omega
  rw [show ((0 : Nat) : Int) = 0 from rfl] at HU
  have hk1 : decide ((s : Int) ≤ 0) = false := decide_eq_false (by omega)
  have hk2 : decide (s = 0) = false := decide_eq_false (by omega)
  have HS : Hid (St w ((w.alloc (.cells #[.bool b, .int .i8 s, .int .u64 n] 74)).alloc (.cells #[.bool false, .int .i8 0, .int .u64 0] 74))
      [(w.heap.size + 1, 0, .bool false), (w.heap.size + 1, 1, .int .i8 0), (w.heap.size + 1, 2, .int .u64 0), (w.heap.size, 0, .bool b), (w.heap.size, 1, .int .i8 s), (w.heap.size, 2, .int .u64 n)] (w.heap.size + 1) 3) :=
    ⟨Cells.box3 (Cells.box3 (Cells.nil _) rfl _ _ _ _) (by simp) _ _ _ _, fun o _ => free_box (by simp) _ _ _, by simp, ((Below.refl _ _).alloc (Nat.le_refl _) _).alloc (by simp) _⟩
  have hne : w.heap.size + 1 ≠ w.heap.size := by omega
  clear hp hn hm hbm hd h0
  go_enter Tryd.func95, Tryd.ntmps95
  go_wp2_with (first | (go_at_call 83; go_must (refine (HC.out _).mono ?_); rintro e w2 ⟨rfl, hb⟩; first | (have HS4 := Lib.hid (HS2.out.call hb); obtain ⟨d04, d14, d24, a04, a14, a24, -⟩ := HS4.out.cells; clear hb) | (have HS2 := Lib.hid (HS.out.call hb); obtain ⟨d02, d12, d22, a02, a12, a22, -⟩ := HS2.out.cells; clear hb)) | (go_at_call 91; go_must (refine (HR.out _ (HP.out _ HS4.out.below)).mono ?_); rintro e w5 ⟨rfl, hb⟩; have HS5 := Lib.hid (HS4.out.call hb); obtain ⟨d05, d15, d25, a05, a15, a25, -⟩ := HS5.out.cells; clear hb) | (go_at_call 81; go_must (refine (HN.out _).mono ?_); rintro e w6 ⟨rfl, hb⟩; have HS6 := Lib.hid (HS5.out.call hb); clear hb) | (go_at_call 85; go_must (refine (HU.out _).mono ?_); rintro e w7 ⟨rfl, hb⟩; have HS7 := Lib.hid (HS6.out.call hb); obtain ⟨d0, d1, d2, -⟩ := HS7.out.cells; have f0 := HS7.out.free 0 (by omega); have f1 := HS7.out.free 1 (by omega); have f2 := HS7.out.free 2 (by omega); have hz := HS7.out.lt; clear hb))
  exact bodyPost_ret (v := .agg #[.bool bm, .int .i8 0, .int .u64 m]) (by simp [results, Tryd.results95, go_sem, d0, d1, d2, f0, f1, f2, hz]) rfl ⟨rfl, ((HS7.out.below.setCell (p := ⟨w.heap.size + 1, 0, none⟩) (Nat.le_succ _) _).setCell (p := ⟨w.heap.size + 1, 1, none⟩) (Nat.le_succ _) _).setCell (p := ⟨w.heap.size + 1, 2, none⟩) (Nat.le_succ _) _⟩
set_option maxHeartbeats 2000000 in
theorem round95_nat (b : Bool) (n s : Nat) (w : World) (hs : s ≤ 19) (hn : n ≤ 9999999999999999999) (k : Nat) (hk : k < s)  (hp : w.cell? ⟨0, s - k, none⟩ = some (.int .u64 ((10 ^ (s - k) : Nat) : Int))) :
    Calls Tryd.prog 95 #[.agg #[.bool b, .int .i8 s, .int .u64 n], .int .i64 (k : Int)] w fun e w' => e = .returned (.agg #[.bool (b && decide (0 < rEven n (s - k))), .int .i8 (k : Int), .int .u64 ((rEven n (s - k) : Nat) : Int)]) ∧ Below w.heap.size w w' := by
  have HC := Lib.hid (fun W => scale_any b s n W hs)
  have HN := Lib.hid (fun W => isNeg_any b s n W)
  obtain ⟨d, hd⟩ : ∃ d, s - k = d := ⟨_, rfl⟩
  rw [hd] at hp ⊢
  have HR := Lib.hid (fun W h => rshEven_any n d W hn (by omega) (by omega) h)
  have HP := Lib.hid (fun (W : World) (hb : Below w.heap.size w W) => pw_cell_below hb hp)
  have HU := Lib.hid (fun W => newUnsafe_any b ((rEven n d)) k W (by omega))
  generalize hm : (rEven n d) = m at *
  generalize hbm : (b && decide (0 < m)) = bm at *
  have hk0 : ¬ ((k : Int) < 0) := by omega
  have hk1 : decide ((s : Int) ≤ (k : Int)) = false := decide_eq_false (by omega)
  have hk2 : decide (s ≤ k) = false := decide_eq_false (by omega)
  have hsd : (s : Int) - (k : Int) = (d : Int) := by omega
  have hsk : k ≤ s := by omega
  have HS : Hid (St w ((w.alloc (.cells #[.bool b, .int .i8 s, .int .u64 n] 74)).alloc (.cells #[.bool false, .int .i8 0, .int .u64 0] 74))
      [(w.heap.size + 1, 0, .bool false), (w.heap.size + 1, 1, .int .i8 0), (w.heap.size + 1, 2, .int .u64 0), (w.heap.size, 0, .bool b), (w.heap.size, 1, .int .i8 s), (w.heap.size, 2, .int .u64 n)] (w.heap.size + 1) 3) :=
    ⟨Cells.box3 (Cells.box3 (Cells.nil _) rfl _ _ _ _) (by simp) _ _ _ _, fun o _ => free_box (by simp) _ _ _, by simp, ((Below.refl _ _).alloc (Nat.le_refl _) _).alloc (by simp) _⟩
  have hne : w.heap.size + 1 ≠ w.heap.size := by omega
  clear hp hn hm hbm hd hk
  go_enter Tryd.func95, Tryd.ntmps95
  go_wp2_with (first | (go_at_call 83; go_must (refine (HC.out _).mono ?_); rintro e w2 ⟨rfl, hb⟩; first | (have HS4 := Lib.hid (HS2.out.call hb); obtain ⟨d04, d14, d24, a04, a14, a24, -⟩ := HS4.out.cells; clear hb) | (have HS2 := Lib.hid (HS.out.call hb); obtain ⟨d02, d12, d22, a02, a12, a22, -⟩ := HS2.out.cells; clear hb)) | (go_at_call 91; go_must (refine (HR.out _ (HP.out _ HS4.out.below)).mono ?_); rintro e w5 ⟨rfl, hb⟩; have HS5 := Lib.hid (HS4.out.call hb); obtain ⟨d05, d15, d25, a05, a15, a25, -⟩ := HS5.out.cells; clear hb) | (go_at_call 81; go_must (refine (HN.out _).mono ?_); rintro e w6 ⟨rfl, hb⟩; have HS6 := Lib.hid (HS5.out.call hb); clear hb) | (go_at_call 85; go_must (refine (HU.out _).mono ?_); rintro e w7 ⟨rfl, hb⟩; have HS7 := Lib.hid (HS6.out.call hb); obtain ⟨d0, d1, d2, -⟩ := HS7.out.cells; have f0 := HS7.out.free 0 (by omega); have f1 := HS7.out.free 1 (by omega); have f2 := HS7.out.free 2 (by omega); have hz := HS7.out.lt; clear hb))
  exact bodyPost_ret (v := .agg #[.bool bm, .int .i8 k, .int .u64 m]) (by simp [results, Tryd.results95, go_sem, d0, d1, d2, f0, f1, f2, hz]) rfl ⟨rfl, ((HS7.out.below.setCell (p := ⟨w.heap.size + 1, 0, none⟩) (Nat.le_succ _) _).setCell (p := ⟨w.heap.size + 1, 1, none⟩) (Nat.le_succ _) _).setCell (p := ⟨w.heap.size + 1, 2, none⟩) (Nat.le_succ _) _⟩
end Go.Proofs.YthkmgjkajllemaaDoor.Spec
