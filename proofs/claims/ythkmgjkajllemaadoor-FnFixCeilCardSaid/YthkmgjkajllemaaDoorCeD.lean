/- FnFixCeil: for every decimal of govalues as parts and every scale, the law answers true; the row lists the package's two errors and its table of powers of ten, and the card ties them to the program's text. -/
import Derived.Test.YthkmgjkajllemaaDoorCeC
import Derived.Test.YthkmgjkajllemaaDoorRows
import Derived.ProofKit
import Derived.LaidMore
import Derived.Lib.LaidTab
import Derived.Stop.LaidErr
import Derived.OpenShut
import Derived.OpenVars
import Derived.Lib.SmallJoins
import Derived.Test.YthkmgjkajllemaaDoorCards
import Derived.Test.YthkmgjkajllemaaDoorTie
import Derived.ChangeOld
import Derived.SevenTiedAt
import Derived.Stop.Joined

/- Decimals of govalues as numbers of the reference. -/
namespace Go.Proofs.YthkmgjkajllemaaDoor.Spec
open Go.RowKit Go.Proofs.YthkmgjkajllemaaDoorW.PrintWords Go.Proofs.YthkmgjkajllemaaDoor.Num Go.Proofs.YthkmgjkajllemaaDoor.Str Go.Proofs.YthkmgjkajllemaaDoor.Nats Go.Proofs.YthkmgjkajllemaaDoor.Val Go.Proofs.YthkmgjkajllemaaDoor.Arith Go.Proofs.YthkmgjkajllemaaDoor.NatOps Go.Proofs.YthkmgjkajllemaaDoor.Make
set_option linter.unusedVariables false
set_option linter.unusedSimpArgs false

/-- The number of a sign and an amount. -/
def fz (neg : Bool) (n : Nat) : Int := if neg then -(n : Int) else n
theorem fz_neg (neg : Bool) (n : Nat) : decide (fz neg n < 0) = (neg && decide (0 < n)) := by
  unfold fz
  cases neg
  · simp
  · rw [if_pos rfl]
    by_cases h : 0 < n
    · simp [h]
    · have : n = 0 := by omega
      subst this
      simp
theorem fz_abs (neg : Bool) (n : Nat) : (fz neg n).natAbs = n := by
  unfold fz
  cases neg <;> simp

set_option maxHeartbeats 2000000 in
set_option maxRecDepth 100000 in
/-- FixDec. -/
theorem fixDec_any (neg : Bool) (n s : Nat) (w : World) (hn : n < 18446744073709551616) (hs : s ≤ 1000) :
    Calls Tryd.prog 65 #[.agg #[.bool neg, .int .u64 n, .int .i64 s]] w fun e w' => ∃ u, e = .returned (.agg #[.bool (decide (fz neg n < 0)), u, .int .i64 (-(s : Int))]) ∧ IsNew w' w.heap.size u n ∧ Below w.heap.size w w' := by
  have HN := Lib.hid (fun W => natFrom_new n W hn)
  have HW := Lib.hid (fun r W hr => wholeMk_any neg r n W hr)
  rw [fz_neg]
  generalize (neg && decide (0 < n)) = x at HW ⊢
  have hw : IntKind.i64.wrap (-(s : Int)) = -(s : Int) := IntWalk.i64_in _ (by omega)
  have HS : Hid (St w ((w.alloc (.cells #[.bool neg, .int .u64 n, .int .i64 s] 32)).alloc (.cells #[.bool false, .slice none 0 0, .int .i64 0] 40))
      [(w.heap.size + 1, 0, .bool false), (w.heap.size + 1, 1, .slice none 0 0), (w.heap.size + 1, 2, .int .i64 0), (w.heap.size, 0, .bool neg), (w.heap.size, 1, .int .u64 n), (w.heap.size, 2, .int .i64 s)] (w.heap.size + 1) 3) :=
    ⟨Cells.box3 (Cells.box3 (Cells.nil _) rfl _ _ _ _) (by simp) _ _ _ _, fun o _ => free_box (by simp) _ _ _, by simp, ((Below.refl _ _).alloc (Nat.le_refl _) _).alloc (by simp) _⟩
  have hne : w.heap.size + 1 ≠ w.heap.size := by omega
  clear hn
  go_enter Tryd.func65, Tryd.ntmps65
  go_wp2
  obtain ⟨W, hW⟩ : ∃ W, (w.alloc (.cells #[.bool neg, .int .u64 n, .int .i64 s] 32)).alloc (.cells #[.bool false, .slice none 0 0, .int .i64 0] 40) = W := ⟨_, rfl⟩
  rw [hW] at HS ⊢
  clear hW
  have HS1 := Lib.hid (HS.out.call (below_drew (Below.refl _ _)))
  clear HS
  go_region_held3 (fun W' => W'.cell? ⟨w.heap.size, 0, none⟩ = some (.bool neg) ∧ W'.cell? ⟨w.heap.size, 1, none⟩ = some (.int .u64 n) ∧ W'.cell? ⟨w.heap.size, 2, none⟩ = some (.int .i64 s))
    (first | exact (by have h := HS3.out.cells.2.2.2; exact ⟨h.1, h.2.1, h.2.2.1⟩) | exact (by have h := HS2.out.cells.2.2.2; exact ⟨h.1, h.2.1, h.2.2.1⟩) | exact (by have h := HS1.out.cells.2.2.2; exact ⟨h.1, h.2.1, h.2.2.1⟩) | go_keep)
    (first | (go_at_call 11; (refine (HN.out _).mono ?_); rintro e w2 ⟨r, rfl, hn, hb⟩; have HS2 := Lib.hid (HS1.out.call hb); have HG2 := Lib.hid hn; obtain ⟨A2, c2, rfl⟩ := hn.slice; clear hn hb) | (go_at_call 62; (refine (HW.out _ _ HG2.out.isNat).mono ?_); rintro e w3 ⟨rfl, hb⟩; have HS3 := Lib.hid (HS2.out.call hb); have HG3 := Lib.hid (HG2.out.below hb); obtain ⟨d0, d1, d2, b0', b1', b2', -⟩ := HS3.out.cells; have f0 := HS3.out.free 0 (by omega); have f1 := HS3.out.free 1 (by omega); have f2 := HS3.out.free 2 (by omega); have hz := HS3.out.lt; clear hb))
  all_goals (go_wp2; exact bodyPost_ret (v := .agg #[.bool x, .slice A2 (limbs n).length c2, .int .i64 (-(s : Int))]) (by simp [results, Tryd.results65, go_sem, d0, d1, d2, f0, f1, f2, hz]) rfl ⟨_, rfl, (((HG3.out.set (by exact HS1.out.lt) _).set (by exact HS1.out.lt) _).set (by exact HS1.out.lt) _).lower HS1.out.below.size, ((HS3.out.below.setCell (p := ⟨w.heap.size + 1, 0, none⟩) (Nat.le_succ _) _).setCell (p := ⟨w.heap.size + 1, 1, none⟩) (Nat.le_succ _) _).setCell (p := ⟨w.heap.size + 1, 2, none⟩) (Nat.le_succ _) _⟩)

set_option maxHeartbeats 2000000 in
set_option maxRecDepth 100000 in
/-- FixNum. -/
theorem fixNum_any (neg : Bool) (n s : Nat) (w : World) (hn : n < 18446744073709551616) (hs : s < 1000) :
    Calls Tryd.prog 66 #[.agg #[.bool neg, .int .u64 n, .int .i64 s]] w fun e w' => ∃ u v, e = .returned (.agg #[.bool (decide (fz neg n < 0)), u, v]) ∧ IsNew w' w.heap.size u n ∧ IsNew w' w.heap.size v (10 ^ s) ∧ Below w.heap.size w w' := by
  have hl := limbs_length 3 n (by omega)
  have HD := Lib.hid (fun W => fixDec_any neg n s W hn (by omega))
  have HF := Lib.hid (fun u b0 W (h1 : IsNew W b0 u n) h2 => decFrac_any (fz neg n) s b0 u W (by rw [fz_abs]; exact h1) h2 hs (by rw [fz_abs]; omega))
  rw [fz_abs] at HF
  generalize decide (fz neg n < 0) = x at HD HF ⊢
  clear hn hl hs
  have HS : Hid (St w ((w.alloc (.cells #[.bool neg, .int .u64 n, .int .i64 s] 32)).alloc (.cells #[.bool false, .slice none 0 0, .slice none 0 0] 45))
      [(w.heap.size + 1, 0, .bool false), (w.heap.size + 1, 1, .slice none 0 0), (w.heap.size + 1, 2, .slice none 0 0), (w.heap.size, 0, .bool neg), (w.heap.size, 1, .int .u64 n), (w.heap.size, 2, .int .i64 s)] (w.heap.size + 1) 3) :=
    ⟨Cells.box3 (Cells.box3 (Cells.nil _) rfl _ _ _ _) (by simp) _ _ _ _, fun o _ => free_box (by simp) _ _ _, by simp, ((Below.refl _ _).alloc (Nat.le_refl _) _).alloc (by simp) _⟩
  go_enter Tryd.func66, Tryd.ntmps66
  go_wp2_with (first | (go_at_call 65; go_must (refine (HD.out _).mono ?_); rintro e w2 ⟨r, rfl, hn, hb⟩; have HS2 := Lib.hid (HS.out.call hb); have HL2 := Lib.hid hb.size; have HG2 := Lib.hid hn; obtain ⟨A2, c2, rfl⟩ := hn.slice; clear hn hb) | (go_at_call 30; go_must (refine (HF.out _ _ _ HG2.out HL2.out).mono ?_); rintro e w3 ⟨u, v, rfl, hn, hn', hb⟩; have HS3 := Lib.hid (HS2.out.call hb); have HG3 := Lib.hid hn; have HG3' := Lib.hid hn'; obtain ⟨A3, c3, rfl⟩ := hn.slice; obtain ⟨A4, c4, rfl⟩ := hn'.slice; obtain ⟨d0, d1, d2, b0', b1', b2', -⟩ := HS3.out.cells; have f0 := HS3.out.free 0 (by omega); have f1 := HS3.out.free 1 (by omega); have f2 := HS3.out.free 2 (by omega); have hz := HS3.out.lt; clear hn hn' hb))
  exact bodyPost_ret (v := .agg #[.bool x, .slice A3 (limbs n).length c3, .slice A4 (limbs (10 ^ s)).length c4]) (by simp [results, Tryd.results66, go_sem, d0, d1, d2, f0, f1, f2, hz]) rfl ⟨_, _, rfl, (((HG3.out.set (by exact HS.out.lt) _).set (by exact HS.out.lt) _).set (by exact HS.out.lt) _).lower HS.out.below.size, (((HG3'.out.set (by exact HS.out.lt) _).set (by exact HS.out.lt) _).set (by exact HS.out.lt) _).lower HS.out.below.size, ((HS3.out.below.setCell (p := ⟨w.heap.size + 1, 0, none⟩) (Nat.le_succ _) _).setCell (p := ⟨w.heap.size + 1, 1, none⟩) (Nat.le_succ _) _).setCell (p := ⟨w.heap.size + 1, 2, none⟩) (Nat.le_succ _) _⟩
end Go.Proofs.YthkmgjkajllemaaDoor.Spec

/- FixIs, FixHas, FixSame. -/
namespace Go.Proofs.YthkmgjkajllemaaDoor.Spec
open Go.RowKit Go.Proofs.YthkmgjkajllemaaDoorW.PrintWords Go.Proofs.YthkmgjkajllemaaDoor.Num Go.Proofs.YthkmgjkajllemaaDoor.Str Go.Proofs.YthkmgjkajllemaaDoor.Nats Go.Proofs.YthkmgjkajllemaaDoor.Val Go.Proofs.YthkmgjkajllemaaDoor.Arith Go.Proofs.YthkmgjkajllemaaDoor.NatOps Go.Proofs.YthkmgjkajllemaaDoor.Make
set_option linter.unusedVariables false
set_option linter.unusedSimpArgs false

theorem fixIs_ok (neg : Bool) (n s : Nat) (w : World) (hn : n ≤ 9999999999999999999) (hs : s ≤ 19) :
    Calls Tryd.prog 20 #[.agg #[.bool neg, .int .u64 n, .int .i64 s]] w fun e w' => e = .returned (.bool true) ∧ Below w.heap.size w w' := by
  have g0 : decide ((n : Int) ≤ 9999999999999999999) = true := decide_eq_true (by omega)
  have g1 : decide ((0 : Int) ≤ (s : Int)) = true := decide_eq_true (by omega)
  have g2 : decide ((s : Int) ≤ 19) = true := decide_eq_true (by omega)
  clear hn hs
  go_enter Tryd.func20, Tryd.ntmps20
  go_wp2
  go_ret
  exact ⟨rfl, (Below.refl _ _).alloc (Nat.le_refl _) _⟩
theorem fixIs_big (neg : Bool) (n : Nat) (s : Int) (w : World) (hn : 9999999999999999999 < n) :
    Calls Tryd.prog 20 #[.agg #[.bool neg, .int .u64 n, .int .i64 s]] w fun e w' => e = .returned (.bool false) ∧ Below w.heap.size w w' := by
  have g0 : decide ((n : Int) ≤ 9999999999999999999) = false := decide_eq_false (by omega)
  clear hn
  go_enter Tryd.func20, Tryd.ntmps20
  go_wp2
  go_ret
  exact ⟨rfl, (Below.refl _ _).alloc (Nat.le_refl _) _⟩
theorem fixIs_scale (neg : Bool) (n : Nat) (s : Int) (w : World) (hn : n ≤ 9999999999999999999) (hs : s < 0 ∨ 19 < s) :
    Calls Tryd.prog 20 #[.agg #[.bool neg, .int .u64 n, .int .i64 s]] w fun e w' => e = .returned (.bool false) ∧ Below w.heap.size w w' := by
  have g0 : decide ((n : Int) ≤ 9999999999999999999) = true := decide_eq_true (by omega)
  clear hn
  by_cases h : s < 0
  · have g1 : decide ((0 : Int) ≤ s) = false := decide_eq_false (by omega)
    clear h hs
    go_enter Tryd.func20, Tryd.ntmps20
    go_wp2
    go_ret
    exact ⟨rfl, (Below.refl _ _).alloc (Nat.le_refl _) _⟩
  · have g1 : decide ((0 : Int) ≤ s) = true := decide_eq_true (by omega)
    have g2 : decide (s ≤ 19) = false := decide_eq_false (by omega)
    clear h hs
    go_enter Tryd.func20, Tryd.ntmps20
    go_wp2
    go_ret
    exact ⟨rfl, (Below.refl _ _).alloc (Nat.le_refl _) _⟩

theorem icmp_zero {p q : Int} (h : p = q) : icmp p q = 0 := by unfold icmp; rw [if_neg (by omega), if_pos h]

set_option maxHeartbeats 4000000 in
set_option maxRecDepth 100000 in
/-- FixHas, where it is so. -/
theorem fixHas_true (neg : Bool) (n s : Nat) (q : Int) (f : Nat) (u v : Value) (w : World) (hn : n ≤ 9999999999999999999) (hs : s ≤ 19) (hneg : neg = true → 0 < n) (hu : IsNat w u q.natAbs) (hv : IsNat w v f)
    (hq : (limbs q.natAbs).length < 1000) (hf : (limbs f).length < 1000) (heq : fz neg n * f = q * (10 ^ s : Nat)) (hl : (limbs (q * ((10 ^ s : Nat) : Int)).natAbs).length < 1000000) :
    Calls Tryd.prog 54 #[.agg #[.bool neg, .int .u64 n, .int .i64 s], .agg #[.bool (decide (q < 0)), u, v]] w fun e w' => e = .returned (.bool true) ∧ Below w.heap.size w w' := by
  have hlt : n < 18446744073709551616 := by omega
  have hn3 := limbs_length 3 n (by omega)
  have hp3 := limbs_length 3 (10 ^ s) (Nat.lt_of_le_of_lt (Nat.pow_le_pow_right (by decide) hs) (by decide))
  have HI := Lib.hid (fun W => fixIs_ok neg n s W hn hs)
  have HN := Lib.hid (fun W => fixNum_any neg n s W hlt (by omega))
  have HC := Lib.hid (fun u' v' W (h1 : IsNat W u' n) h2 h3 h4 => fracCmp_any (fz neg n) q (10 ^ s) f u' v' u v W (by rw [fz_abs]; exact h1) h2 h3 h4 (by rw [fz_abs]; omega) (by omega) hq hf (by rw [heq]; exact hl) hl)
  rw [icmp_zero heq] at HC
  have HU := Lib.hid (fun (W : World) (hb : Below w.heap.size w W) => hu.below hb)
  have HV := Lib.hid (fun (W : World) (hb : Below w.heap.size w W) => hv.below hb)
  obtain ⟨A, c, rfl, hc, hr⟩ := hu
  obtain ⟨B, cb, rfl, hcb, hrb⟩ := hv
  generalize decide (q < 0) = y at *
  generalize decide (fz neg n < 0) = x at *
  generalize (limbs q.natAbs).length = lq at *
  generalize (limbs f).length = lf at *
  have hb : (neg = false) ∨ (neg = true ∧ ((n : Int) == 0) = false ∧ decide ((n : Int) = 0) = false) := by
    cases neg with
    | false => exact .inl rfl
    | true => exact .inr ⟨rfl, beq_eq_false_iff_ne.2 (by have := hneg rfl; omega), decide_eq_false (by have := hneg rfl; omega)⟩
  clear hr hrb hc hcb hlt hn3 hp3 hq hf heq hl hneg hn
  have HS : Hid (St w ((w.alloc (.cells #[.bool neg, .int .u64 n, .int .i64 s] 32)).alloc (.cells #[.bool y, .slice A lq c, .slice B lf cb] 45))
      [(w.heap.size + 1, 0, .bool y), (w.heap.size + 1, 1, .slice A lq c), (w.heap.size + 1, 2, .slice B lf cb), (w.heap.size, 0, .bool neg), (w.heap.size, 1, .int .u64 n), (w.heap.size, 2, .int .i64 s)] (w.heap.size + 1) 3) :=
    ⟨Cells.box3 (Cells.box3 (Cells.nil _) rfl _ _ _ _) (by simp) _ _ _ _, fun o _ => free_box (by simp) _ _ _, by simp, ((Below.refl _ _).alloc (Nat.le_refl _) _).alloc (by simp) _⟩
  rcases hb with rfl | ⟨rfl, h0, h00⟩
  · go_enter Tryd.func54, Tryd.ntmps54
    go_wp2
    obtain ⟨W, hW⟩ : ∃ W, (w.alloc (.cells #[.bool false, .int .u64 n, .int .i64 s] 32)).alloc (.cells #[.bool y, .slice A lq c, .slice B lf cb] 45) = W := ⟨_, rfl⟩
    rw [hW] at HS ⊢
    clear hW
    have HS1 := Lib.hid (HS.out.call (below_drew (Below.refl _ _)))
    clear HS
    obtain ⟨a0, a1, a2, b0, b1, b2, -⟩ := HS1.out.cells
    have a0 : W.cell? _ = _ := a0
    have a1 : W.cell? _ = _ := a1
    have a2 : W.cell? _ = _ := a2
    have b0 : W.cell? _ = _ := b0
    have b1 : W.cell? _ = _ := b1
    have b2 : W.cell? _ = _ := b2
    first | (go_region_with (first | (go_at_call 20; (refine (HI.out _).mono ?_); rintro e w2 ⟨rfl, hb⟩; have HS2 := Lib.hid (HS1.out.call hb); obtain ⟨a02, a12, a22, b02, b12, b22, -⟩ := HS2.out.cells; clear hb) | (go_at_call 66; (refine (HN.out _).mono ?_); rintro e w3 ⟨u', v', rfl, hn, hn', hb⟩; have HS3 := Lib.hid (HS2.out.call hb); have HG3 := Lib.hid hn; have HG3' := Lib.hid hn'; obtain ⟨A3, c3, rfl⟩ := hn.slice; obtain ⟨A4, c4, rfl⟩ := hn'.slice; obtain ⟨a03, a13, a23, b03, b13, b23, -⟩ := HS3.out.cells; clear hn hn' hb) | (go_at_call 36; (refine (HC.out _ _ _ HG3.out.isNat HG3'.out.isNat (HU.out _ HS3.out.below) (HV.out _ HS3.out.below)).mono ?_); rintro e w4 ⟨rfl, hb⟩; have HS4 := Lib.hid (HS3.out.call hb); clear hb))) | fail "no"
    all_goals (go_wp2; go_ret; exact ⟨rfl, HS4.out.below⟩)
  · go_enter Tryd.func54, Tryd.ntmps54
    go_wp2
    obtain ⟨W, hW⟩ : ∃ W, (w.alloc (.cells #[.bool true, .int .u64 n, .int .i64 s] 32)).alloc (.cells #[.bool y, .slice A lq c, .slice B lf cb] 45) = W := ⟨_, rfl⟩
    rw [hW] at HS ⊢
    clear hW
    have HS1 := Lib.hid (HS.out.call (below_drew (Below.refl _ _)))
    clear HS
    go_region_held3 (fun W' => W'.cell? ⟨w.heap.size + 1, 0, none⟩ = some (.bool y) ∧ W'.cell? ⟨w.heap.size + 1, 1, none⟩ = some (.slice A lq c) ∧ W'.cell? ⟨w.heap.size + 1, 2, none⟩ = some (.slice B lf cb) ∧ W'.cell? ⟨w.heap.size, 0, none⟩ = some (.bool true) ∧ W'.cell? ⟨w.heap.size, 1, none⟩ = some (.int .u64 n) ∧ W'.cell? ⟨w.heap.size, 2, none⟩ = some (.int .i64 s))
      (first | exact (by have h := HS4.out.cells; exact ⟨h.1, h.2.1, h.2.2.1, h.2.2.2.1, h.2.2.2.2.1, h.2.2.2.2.2.1⟩) | exact (by have h := HS3.out.cells; exact ⟨h.1, h.2.1, h.2.2.1, h.2.2.2.1, h.2.2.2.2.1, h.2.2.2.2.2.1⟩) | exact (by have h := HS2.out.cells; exact ⟨h.1, h.2.1, h.2.2.1, h.2.2.2.1, h.2.2.2.2.1, h.2.2.2.2.2.1⟩) | exact (by have h := HS1.out.cells; exact ⟨h.1, h.2.1, h.2.2.1, h.2.2.2.1, h.2.2.2.2.1, h.2.2.2.2.2.1⟩) | go_keep)
      (first | (go_at_call 20; (refine (HI.out _).mono ?_); rintro e w2 ⟨rfl, hb⟩; have HS2 := Lib.hid (HS1.out.call hb); clear hb) | (go_at_call 66; (refine (HN.out _).mono ?_); rintro e w3 ⟨u', v', rfl, hn, hn', hb⟩; have HS3 := Lib.hid (HS2.out.call hb); have HG3 := Lib.hid hn; have HG3' := Lib.hid hn'; obtain ⟨A3, c3, rfl⟩ := hn.slice; obtain ⟨A4, c4, rfl⟩ := hn'.slice; clear hn hn' hb) | (go_at_call 36; (refine (HC.out _ _ _ HG3.out.isNat HG3'.out.isNat (HU.out _ HS3.out.below) (HV.out _ HS3.out.below)).mono ?_); rintro e w4 ⟨rfl, hb⟩; have HS4 := Lib.hid (HS3.out.call hb); clear hb))
    all_goals (go_wp2; go_ret; exact ⟨rfl, HS4.out.below⟩)
end Go.Proofs.YthkmgjkajllemaaDoor.Spec

/- FixSame, where it is so. -/
namespace Go.Proofs.YthkmgjkajllemaaDoor.Spec
open Go.RowKit Go.Proofs.YthkmgjkajllemaaDoorW.PrintWords Go.Proofs.YthkmgjkajllemaaDoor.Num Go.Proofs.YthkmgjkajllemaaDoor.Str Go.Proofs.YthkmgjkajllemaaDoor.Nats Go.Proofs.YthkmgjkajllemaaDoor.Val Go.Proofs.YthkmgjkajllemaaDoor.Arith Go.Proofs.YthkmgjkajllemaaDoor.NatOps Go.Proofs.YthkmgjkajllemaaDoor.Make
set_option linter.unusedVariables false
set_option linter.unusedSimpArgs false

set_option maxHeartbeats 4000000 in
set_option maxRecDepth 100000 in
/-- FixSame, where the decimal is the number with its places. -/
theorem fixSame_true (neg : Bool) (n s : Nat) (b0 : Nat) (u : Value) (w : World) (hn : n ≤ 9999999999999999999) (hs : s ≤ 19) (hneg : neg = true → 0 < n) (hu : IsNew w b0 u n) (hb0 : b0 ≤ w.heap.size) :
    Calls Tryd.prog 24 #[.agg #[.bool neg, .int .u64 n, .int .i64 s], .agg #[.bool (decide (fz neg n < 0)), u, .int .i64 (-(s : Int))]] w fun e w' => e = .returned (.bool true) ∧ Below w.heap.size w w' := by
  have hn3 := limbs_length 3 n (by omega)
  have hp3 := limbs_length 3 (10 ^ s) (Nat.lt_of_le_of_lt (Nat.pow_le_pow_right (by decide) hs) (by decide))
  have hq6 := limbs_length 6 (n * 10 ^ s) (by
    have h1 : 10 ^ s < 1000000000 ^ 3 := Nat.lt_of_le_of_lt (Nat.pow_le_pow_right (by decide) hs) (by decide)
    have h2 : n * 10 ^ s ≤ n * 1000000000 ^ 3 := Nat.mul_le_mul_left _ (Nat.le_of_lt h1)
    have h3 : n * 1000000000 ^ 3 < 1000000000 ^ 3 * 1000000000 ^ 3 := Nat.mul_lt_mul_of_pos_right (by omega) (by decide)
    rw [← Nat.pow_add] at h3
    omega)
  have HF := Lib.hid (fun W (h1 : IsNew W b0 u n) h2 => decFrac_any (fz neg n) s b0 u W (by rw [fz_abs]; exact h1) h2 (by omega) (by rw [fz_abs]; omega))
  have HH := Lib.hid (fun u' v' W (h1 : IsNat W u' n) h2 => fixHas_true neg n s (fz neg n) (10 ^ s) u' v' W hn hs hneg (by rw [fz_abs]; exact h1) h2 (by rw [fz_abs]; omega) (by omega) rfl (by rw [Int.natAbs_mul, fz_abs]; simp only [Int.natAbs_natCast]; omega))
  rw [fz_abs] at HF
  generalize decide (fz neg n < 0) = x at *
  have HU := Lib.hid (fun (W : World) (hb : Below w.heap.size w W) => hu.below hb)
  have HB0 := Lib.hid hb0
  obtain ⟨A, c, rfl⟩ := hu.slice
  have hw : IntKind.i64.wrap (s : Int) = (s : Int) := IntWalk.i64_in _ (by omega)
  have hnn : -(-(s : Int)) = (s : Int) := by omega
  clear hu hb0 hn3 hp3 hq6 hn hneg
  have HS : Hid (St w ((w.alloc (.cells #[.bool neg, .int .u64 n, .int .i64 s] 32)).alloc (.cells #[.bool x, .slice A (limbs n).length c, .int .i64 (-(s : Int))] 40))
      [(w.heap.size + 1, 0, .bool x), (w.heap.size + 1, 1, .slice A (limbs n).length c), (w.heap.size + 1, 2, .int .i64 (-(s : Int))), (w.heap.size, 0, .bool neg), (w.heap.size, 1, .int .u64 n), (w.heap.size, 2, .int .i64 s)] (w.heap.size + 1) 3) :=
    ⟨Cells.box3 (Cells.box3 (Cells.nil _) rfl _ _ _ _) (by simp) _ _ _ _, fun o _ => free_box (by simp) _ _ _, by simp, ((Below.refl _ _).alloc (Nat.le_refl _) _).alloc (by simp) _⟩
  go_enter Tryd.func24, Tryd.ntmps24
  go_wp2
  obtain ⟨W, hW⟩ : ∃ W, (w.alloc (.cells #[.bool neg, .int .u64 n, .int .i64 s] 32)).alloc (.cells #[.bool x, .slice A (limbs n).length c, .int .i64 (-(s : Int))] 40) = W := ⟨_, rfl⟩
  rw [hW] at HS ⊢
  clear hW
  have HS1 := Lib.hid (HS.out.call (below_drew (Below.refl _ _)))
  clear HS
  go_region_held3 (fun W' => W'.cell? ⟨w.heap.size + 1, 0, none⟩ = some (.bool x) ∧ W'.cell? ⟨w.heap.size + 1, 1, none⟩ = some (.slice A (limbs n).length c) ∧ W'.cell? ⟨w.heap.size + 1, 2, none⟩ = some (.int .i64 (-(s : Int))) ∧ W'.cell? ⟨w.heap.size, 0, none⟩ = some (.bool neg) ∧ W'.cell? ⟨w.heap.size, 1, none⟩ = some (.int .u64 n) ∧ W'.cell? ⟨w.heap.size, 2, none⟩ = some (.int .i64 s))
    (first | exact (by have h := HS3.out.cells; exact ⟨h.1, h.2.1, h.2.2.1, h.2.2.2.1, h.2.2.2.2.1, h.2.2.2.2.2.1⟩) | exact (by have h := HS2.out.cells; exact ⟨h.1, h.2.1, h.2.2.1, h.2.2.2.1, h.2.2.2.2.1, h.2.2.2.2.2.1⟩) | exact (by have h := HS1.out.cells; exact ⟨h.1, h.2.1, h.2.2.1, h.2.2.2.1, h.2.2.2.2.1, h.2.2.2.2.2.1⟩) | go_keep)
    (first | (go_at_call 30; (refine (HF.out _ (HU.out _ HS1.out.below) (Nat.le_trans HB0.out HS1.out.below.size)).mono ?_); rintro e w2 ⟨u', v', rfl, hn, hn', hb⟩; have HS2 := Lib.hid (HS1.out.call hb); have HG2 := Lib.hid hn; have HG2' := Lib.hid hn'; obtain ⟨A3, c3, rfl⟩ := hn.slice; obtain ⟨A4, c4, rfl⟩ := hn'.slice; clear hn hn' hb) | (go_at_call 54; (refine (HH.out _ _ _ HG2.out.isNat HG2'.out.isNat).mono ?_); rintro e w3 ⟨rfl, hb⟩; have HS3 := Lib.hid (HS2.out.call hb); clear hb))
  all_goals (go_wp2; go_ret; exact ⟨rfl, HS3.out.below⟩)
end Go.Proofs.YthkmgjkajllemaaDoor.Spec

/- gvTo: a decimal beside another one that is rounded to a scale. -/
namespace Go.Proofs.YthkmgjkajllemaaDoor.Spec
open Go.RowKit Go.Proofs.YthkmgjkajllemaaDoorW.PrintWords Go.Proofs.YthkmgjkajllemaaDoorW.PrintMore Go.Proofs.YthkmgjkajllemaaDoor.Num Go.Proofs.YthkmgjkajllemaaDoor.Str Go.Proofs.YthkmgjkajllemaaDoor.Nats Go.Proofs.YthkmgjkajllemaaDoor.Val Go.Proofs.YthkmgjkajllemaaDoor.Arith Go.Proofs.YthkmgjkajllemaaDoor.NatOps Go.Proofs.YthkmgjkajllemaaDoor.Make
attribute [local go_sem] max2_int min2_int max_two min_two max_three min_three
set_option linter.unusedVariables false
set_option linter.unusedSimpArgs false

set_option maxHeartbeats 2000000 in
set_option maxRecDepth 100000 in
theorem gvTo_stay_neg (neg : Bool) (n s : Nat) (hn : n ≤ 9999999999999999999) (z : Int) (way : Int) (w : World) (hs : s = 0) (hz0 : z < 0) (hz1 : z ≥ -9223372036854775808) :
    Calls Tryd.prog 28 #[.agg #[.bool neg, .int .u64 n, .int .i64 s], .agg #[.bool (neg && decide (0 < n)), .int .u64 n, .int .i64 s], .int .i64 0, .int .i64 z, .int .i64 way] w fun e w' => e = .returned (.bool true) ∧ Below w.heap.size w w' := by
  have HD := Lib.hid (fun W => fixDec_any neg n s W (by omega) (by omega))
  have HSm := Lib.hid (fun u b0 W h1 h2 => fixSame_true (neg && decide (0 < n)) n s b0 u W hn (by omega) (by simp) h1 h2)
  rw [fz_neg] at HD
  rw [fz_neg, show (neg && decide (0 < n) && decide (0 < n)) = (neg && decide (0 < n)) by cases neg <;> simp] at HSm
  generalize (neg && decide (0 < n)) = nb at *
  subst hs
  rw [show ((0 : Nat) : Int) = 0 from rfl, show -(0 : Int) = 0 from rfl] at HD HSm
  rw [show ((0 : Nat) : Int) = 0 from rfl]
  have HS : Hid (St w ((w.alloc (.cells #[.bool neg, .int .u64 n, .int .i64 0] 32)).alloc (.cells #[.bool nb, .int .u64 n, .int .i64 0] 32))
      [(w.heap.size + 1, 0, .bool nb), (w.heap.size + 1, 1, .int .u64 n), (w.heap.size + 1, 2, .int .i64 0), (w.heap.size, 0, .bool neg), (w.heap.size, 1, .int .u64 n), (w.heap.size, 2, .int .i64 0)] (w.heap.size + 1) 3) :=
    ⟨Cells.box3 (Cells.box3 (Cells.nil _) rfl _ _ _ _) (by simp) _ _ _ _, fun o _ => free_box (by simp) _ _ _, by simp, ((Below.refl _ _).alloc (Nat.le_refl _) _).alloc (by simp) _⟩
  clear hn
  go_enter Tryd.func28, Tryd.ntmps28
  go_wp2_with (first | (go_at_call 65; go_must (refine (HD.out _).mono ?_); rintro e w2 ⟨u, rfl, hn2, hb⟩; have HS2 := Lib.hid (HS.out.call hb); have HL2 := Lib.hid hb.size; obtain ⟨A2, c2, rfl⟩ := hn2.slice; have HO3 := Lib.hid (below_at (Below.refl w2.heap.size w2) (.cells #[.bool nb, .slice A2 (limbs n).length c2, .int .i64 0] 40)); have HS3 := Lib.hid (HS2.out.call HO3.out); have HN3 := Lib.hid (hn2.below HO3.out); obtain ⟨d03, d13, d23, a03, a13, a23, -⟩ := HS3.out.cells; have hne := Nat.ne_of_lt HS2.out.lt; clear hn2 hb) | (go_at_call 24; go_must (refine (HSm.out _ _ _ HN3.out (Nat.le_trans HL2.out HO3.out.size)).mono ?_); rintro e w4 ⟨rfl, hb⟩; have HS4 := Lib.hid (HS3.out.call hb); clear hb))
  go_ret
  exact ⟨rfl, HS4.out.below⟩
set_option maxHeartbeats 2000000 in
set_option maxRecDepth 100000 in
theorem gvTo_stay_nat (neg : Bool) (n s : Nat) (hn : n ≤ 9999999999999999999) (k : Nat) (way : Int) (w : World) (hs : s ≤ 19) (hk : s ≤ k) (hkm : k ≤ 9223372036854775807) :
    Calls Tryd.prog 28 #[.agg #[.bool neg, .int .u64 n, .int .i64 s], .agg #[.bool (neg && decide (0 < n)), .int .u64 n, .int .i64 s], .int .i64 0, .int .i64 (k : Int), .int .i64 way] w fun e w' => e = .returned (.bool true) ∧ Below w.heap.size w w' := by
  have HD := Lib.hid (fun W => fixDec_any neg n s W (by omega) (by omega))
  have HSm := Lib.hid (fun u b0 W h1 h2 => fixSame_true (neg && decide (0 < n)) n s b0 u W hn (by omega) (by simp) h1 h2)
  rw [fz_neg] at HD
  rw [fz_neg, show (neg && decide (0 < n) && decide (0 < n)) = (neg && decide (0 < n)) by cases neg <;> simp] at HSm
  generalize (neg && decide (0 < n)) = nb at *
  have hk0 : ¬ ((k : Int) < 0) := by omega
  have hk1 : decide ((k : Int) < (s : Int)) = false := decide_eq_false (by omega)
  have hk2 : decide (k < s) = false := decide_eq_false (by omega)
  clear hs hk
  have HS : Hid (St w ((w.alloc (.cells #[.bool neg, .int .u64 n, .int .i64 s] 32)).alloc (.cells #[.bool nb, .int .u64 n, .int .i64 s] 32))
      [(w.heap.size + 1, 0, .bool nb), (w.heap.size + 1, 1, .int .u64 n), (w.heap.size + 1, 2, .int .i64 s), (w.heap.size, 0, .bool neg), (w.heap.size, 1, .int .u64 n), (w.heap.size, 2, .int .i64 s)] (w.heap.size + 1) 3) :=
    ⟨Cells.box3 (Cells.box3 (Cells.nil _) rfl _ _ _ _) (by simp) _ _ _ _, fun o _ => free_box (by simp) _ _ _, by simp, ((Below.refl _ _).alloc (Nat.le_refl _) _).alloc (by simp) _⟩
  clear hn
  go_enter Tryd.func28, Tryd.ntmps28
  go_wp2_with (first | (go_at_call 65; go_must (refine (HD.out _).mono ?_); rintro e w2 ⟨u, rfl, hn2, hb⟩; have HS2 := Lib.hid (HS.out.call hb); have HL2 := Lib.hid hb.size; obtain ⟨A2, c2, rfl⟩ := hn2.slice; have HO3 := Lib.hid (below_at (Below.refl w2.heap.size w2) (.cells #[.bool nb, .slice A2 (limbs n).length c2, .int .i64 (-(s : Int))] 40)); have HS3 := Lib.hid (HS2.out.call HO3.out); have HN3 := Lib.hid (hn2.below HO3.out); obtain ⟨d03, d13, d23, a03, a13, a23, -⟩ := HS3.out.cells; have hne := Nat.ne_of_lt HS2.out.lt; clear hn2 hb) | (go_at_call 24; go_must (refine (HSm.out _ _ _ HN3.out (Nat.le_trans HL2.out HO3.out.size)).mono ?_); rintro e w4 ⟨rfl, hb⟩; have HS4 := Lib.hid (HS3.out.call hb); clear hb))
  go_ret
  exact ⟨rfl, HS4.out.below⟩
set_option maxHeartbeats 4000000 in
set_option maxRecDepth 100000 in
theorem gvTo_round_neg (neg : Bool) (n s : Nat) (hn : n ≤ 9999999999999999999) (m : Nat) (z : Int) (way : Int) (w : World) (hs : s ≤ 19) (hz0 : z < 0) (hz1 : z ≥ -9223372036854775808) (ht : 0 < s) (hm : rq way (neg && decide (0 < n)) (n * 10 ^ 0) (10 ^ s) = m) (hml : m ≤ 9999999999999999999) :
    Calls Tryd.prog 28 #[.agg #[.bool neg, .int .u64 n, .int .i64 s], .agg #[.bool (neg && decide (0 < n) && decide (0 < m)), .int .u64 m, .int .i64 0], .int .i64 0, .int .i64 z, .int .i64 way] w fun e w' => e = .returned (.bool true) ∧ Below w.heap.size w w' := by
  have hl3 := limbs_length 3 n (by omega)
  have hp3 := limbs_length 3 (10 ^ s) (Nat.lt_of_le_of_lt (Nat.pow_le_pow_right (by decide) hs) (by decide))
  have HD := Lib.hid (fun W => fixDec_any neg n s W (by omega) (by omega))
  have HN := Lib.hid (fun W => fixNum_any neg n s W (by omega) (by omega))
  have HR := Lib.hid (fun u v W h1 h2 => round_any (neg && decide (0 < n)) n (10 ^ s) 0 way u v W h1 h2 (Nat.pow_pos (by decide)) (by omega) (by omega) (by omega))
  have HSm := Lib.hid (fun u b0 W h1 h2 => fixSame_true (neg && decide (0 < n) && decide (0 < m)) m 0 b0 u W hml (by omega) (by simp) h1 h2)
  rw [fz_neg] at HD HN
  rw [hm] at HR
  rw [fz_neg, show (neg && decide (0 < n) && decide (0 < m) && decide (0 < m)) = (neg && decide (0 < n) && decide (0 < m)) by cases decide (0 < m) <;> simp] at HSm
  generalize (neg && decide (0 < n) && decide (0 < m)) = mb at *
  generalize (neg && decide (0 < n)) = nb at *
  rw [show ((0 : Nat) : Int) = 0 from rfl, show -(0 : Int) = 0 from rfl] at HR HSm
  have hk1 : decide ((0 : Int) < (s : Int)) = true := decide_eq_true (by omega)
  have hk2 : decide (0 < s) = true := decide_eq_true ht
  have HS : Hid (St w ((w.alloc (.cells #[.bool neg, .int .u64 n, .int .i64 s] 32)).alloc (.cells #[.bool mb, .int .u64 m, .int .i64 0] 32))
      [(w.heap.size + 1, 0, .bool mb), (w.heap.size + 1, 1, .int .u64 m), (w.heap.size + 1, 2, .int .i64 0), (w.heap.size, 0, .bool neg), (w.heap.size, 1, .int .u64 n), (w.heap.size, 2, .int .i64 s)] (w.heap.size + 1) 3) :=
    ⟨Cells.box3 (Cells.box3 (Cells.nil _) rfl _ _ _ _) (by simp) _ _ _ _, fun o _ => free_box (by simp) _ _ _, by simp, ((Below.refl _ _).alloc (Nat.le_refl _) _).alloc (by simp) _⟩
  clear hn hm hml hs ht hl3 hp3
  go_enter Tryd.func28, Tryd.ntmps28
  go_wp2_with (first | (go_at_call 65; go_must (refine (HD.out _).mono ?_); rintro e w2 ⟨u, rfl, hn2, hb⟩; have HS2 := Lib.hid (HS.out.call hb); obtain ⟨A2, c2, rfl⟩ := hn2.slice; have HO3 := Lib.hid (below_at (Below.refl w2.heap.size w2) (.cells #[.bool nb, .slice A2 (limbs n).length c2, .int .i64 (-(s : Int))] 40)); have HS3 := Lib.hid (HS2.out.call HO3.out); have HW3 : Hid (St w (w2.alloc (.cells #[.bool nb, .slice A2 (limbs n).length c2, .int .i64 (-(s : Int))] 40)) [(w2.heap.size, 0, .bool nb), (w2.heap.size, 1, .slice A2 (limbs n).length c2), (w2.heap.size, 2, .int .i64 (-(s : Int)))] w2.heap.size 3) := Lib.hid ⟨Cells.box3 (Cells.nil _) rfl _ _ _ _, fun o _ => free_box rfl _ _ _, by simp, HS3.out.below⟩; obtain ⟨d03, d13, d23, a03, a13, a23, -⟩ := HS3.out.cells; have hne1 := Nat.ne_of_lt HS2.out.lt; have hne2 := Nat.ne_of_gt HS2.out.lt; clear hn2 hb) | (go_at_call 66; go_must (refine (HN.out _).mono ?_); rintro e w4 ⟨u4, v4, rfl, hu4, hv4, hb⟩; have HS4 := Lib.hid (HS3.out.call hb); have HW4 := Lib.hid (HW3.out.call hb); have HU4 := Lib.hid hu4.isNat; have HV4 := Lib.hid hv4.isNat; clear hu4 hv4 hb) | (go_at_call 26; go_must (refine (HR.out _ _ _ HU4.out HV4.out).mono ?_); rintro e w5 ⟨r, rfl, hn5, hb⟩; have HS5 := Lib.hid (HS4.out.call hb); have HW5 := Lib.hid (HW4.out.call hb); have HN5 := Lib.hid hn5; have HLE := Lib.hid HS2.out.below.size; have HL5 := Lib.hid hb.size; obtain ⟨A5, c5, rfl⟩ := hn5.slice; obtain ⟨d05, d15, d25, a05, a15, a25, -⟩ := HS5.out.cells; obtain ⟨b05, b15, b25, -⟩ := HW5.out.cells; have f0 := HW5.out.free 0 (by omega); have f1 := HW5.out.free 1 (by omega); have f2 := HW5.out.free 2 (by omega); have HZ5 := Lib.hid HW5.out.lt; have hz := HW5.out.lt; clear hn5 hb) | (go_at_call 24; go_must (refine (HSm.out _ _ _ (((HN5.out.set (p := ⟨w2.heap.size, 0, none⟩) HW4.out.lt _).set (p := ⟨w2.heap.size, 1, none⟩) HW4.out.lt _).set (p := ⟨w2.heap.size, 2, none⟩) HW4.out.lt _) (by simpa using HL5.out)).mono ?_); rintro e w6 ⟨rfl, hb⟩; have HB6 := Lib.hid (below_by (((HS5.out.below.setCell (p := ⟨w2.heap.size, 0, none⟩) HLE.out _).setCell (p := ⟨w2.heap.size, 1, none⟩) HLE.out _).setCell (p := ⟨w2.heap.size, 2, none⟩) HLE.out _) hb); clear hb))
  go_ret
  exact ⟨rfl, HB6.out⟩
set_option maxHeartbeats 4000000 in
set_option maxRecDepth 100000 in
theorem gvTo_round_nat (neg : Bool) (n s : Nat) (hn : n ≤ 9999999999999999999) (m t : Nat) (way : Int) (w : World) (hs : s ≤ 19) (ht : t < s) (hm : rq way (neg && decide (0 < n)) (n * 10 ^ t) (10 ^ s) = m) (hml : m ≤ 9999999999999999999) :
    Calls Tryd.prog 28 #[.agg #[.bool neg, .int .u64 n, .int .i64 s], .agg #[.bool (neg && decide (0 < n) && decide (0 < m)), .int .u64 m, .int .i64 t], .int .i64 0, .int .i64 (t : Int), .int .i64 way] w fun e w' => e = .returned (.bool true) ∧ Below w.heap.size w w' := by
  have hl3 := limbs_length 3 n (by omega)
  have hp3 := limbs_length 3 (10 ^ s) (Nat.lt_of_le_of_lt (Nat.pow_le_pow_right (by decide) hs) (by decide))
  have HD := Lib.hid (fun W => fixDec_any neg n s W (by omega) (by omega))
  have HN := Lib.hid (fun W => fixNum_any neg n s W (by omega) (by omega))
  have HR := Lib.hid (fun u v W h1 h2 => round_any (neg && decide (0 < n)) n (10 ^ s) t way u v W h1 h2 (Nat.pow_pos (by decide)) (by omega) (by omega) (by omega))
  have HSm := Lib.hid (fun u b0 W h1 h2 => fixSame_true (neg && decide (0 < n) && decide (0 < m)) m t b0 u W hml (by omega) (by simp) h1 h2)
  rw [fz_neg] at HD HN
  rw [hm] at HR
  rw [fz_neg, show (neg && decide (0 < n) && decide (0 < m) && decide (0 < m)) = (neg && decide (0 < n) && decide (0 < m)) by cases decide (0 < m) <;> simp] at HSm
  generalize (neg && decide (0 < n) && decide (0 < m)) = mb at *
  generalize (neg && decide (0 < n)) = nb at *
  have hk0 : ¬ ((t : Int) < 0) := by omega
  have hk1 : decide ((t : Int) < (s : Int)) = true := decide_eq_true (by omega)
  have hk2 : decide (t < s) = true := decide_eq_true ht
  have hkm : t ≤ 19 := by omega
  have HS : Hid (St w ((w.alloc (.cells #[.bool neg, .int .u64 n, .int .i64 s] 32)).alloc (.cells #[.bool mb, .int .u64 m, .int .i64 t] 32))
      [(w.heap.size + 1, 0, .bool mb), (w.heap.size + 1, 1, .int .u64 m), (w.heap.size + 1, 2, .int .i64 t), (w.heap.size, 0, .bool neg), (w.heap.size, 1, .int .u64 n), (w.heap.size, 2, .int .i64 s)] (w.heap.size + 1) 3) :=
    ⟨Cells.box3 (Cells.box3 (Cells.nil _) rfl _ _ _ _) (by simp) _ _ _ _, fun o _ => free_box (by simp) _ _ _, by simp, ((Below.refl _ _).alloc (Nat.le_refl _) _).alloc (by simp) _⟩
  clear hn hm hml hs ht hl3 hp3
  go_enter Tryd.func28, Tryd.ntmps28
  go_wp2_with (first | (go_at_call 65; go_must (refine (HD.out _).mono ?_); rintro e w2 ⟨u, rfl, hn2, hb⟩; have HS2 := Lib.hid (HS.out.call hb); obtain ⟨A2, c2, rfl⟩ := hn2.slice; have HO3 := Lib.hid (below_at (Below.refl w2.heap.size w2) (.cells #[.bool nb, .slice A2 (limbs n).length c2, .int .i64 (-(s : Int))] 40)); have HS3 := Lib.hid (HS2.out.call HO3.out); have HW3 : Hid (St w (w2.alloc (.cells #[.bool nb, .slice A2 (limbs n).length c2, .int .i64 (-(s : Int))] 40)) [(w2.heap.size, 0, .bool nb), (w2.heap.size, 1, .slice A2 (limbs n).length c2), (w2.heap.size, 2, .int .i64 (-(s : Int)))] w2.heap.size 3) := Lib.hid ⟨Cells.box3 (Cells.nil _) rfl _ _ _ _, fun o _ => free_box rfl _ _ _, by simp, HS3.out.below⟩; obtain ⟨d03, d13, d23, a03, a13, a23, -⟩ := HS3.out.cells; have hne1 := Nat.ne_of_lt HS2.out.lt; have hne2 := Nat.ne_of_gt HS2.out.lt; clear hn2 hb) | (go_at_call 66; go_must (refine (HN.out _).mono ?_); rintro e w4 ⟨u4, v4, rfl, hu4, hv4, hb⟩; have HS4 := Lib.hid (HS3.out.call hb); have HW4 := Lib.hid (HW3.out.call hb); have HU4 := Lib.hid hu4.isNat; have HV4 := Lib.hid hv4.isNat; clear hu4 hv4 hb) | (go_at_call 26; go_must (refine (HR.out _ _ _ HU4.out HV4.out).mono ?_); rintro e w5 ⟨r, rfl, hn5, hb⟩; have HS5 := Lib.hid (HS4.out.call hb); have HW5 := Lib.hid (HW4.out.call hb); have HN5 := Lib.hid hn5; have HLE := Lib.hid HS2.out.below.size; have HL5 := Lib.hid hb.size; obtain ⟨A5, c5, rfl⟩ := hn5.slice; obtain ⟨d05, d15, d25, a05, a15, a25, -⟩ := HS5.out.cells; obtain ⟨b05, b15, b25, -⟩ := HW5.out.cells; have f0 := HW5.out.free 0 (by omega); have f1 := HW5.out.free 1 (by omega); have f2 := HW5.out.free 2 (by omega); have HZ5 := Lib.hid HW5.out.lt; have hz := HW5.out.lt; clear hn5 hb) | (go_at_call 24; go_must (refine (HSm.out _ _ _ (((HN5.out.set (p := ⟨w2.heap.size, 0, none⟩) HW4.out.lt _).set (p := ⟨w2.heap.size, 1, none⟩) HW4.out.lt _).set (p := ⟨w2.heap.size, 2, none⟩) HW4.out.lt _) (by simpa using HL5.out)).mono ?_); rintro e w6 ⟨rfl, hb⟩; have HB6 := Lib.hid (below_by (((HS5.out.below.setCell (p := ⟨w2.heap.size, 0, none⟩) HLE.out _).setCell (p := ⟨w2.heap.size, 1, none⟩) HLE.out _).setCell (p := ⟨w2.heap.size, 2, none⟩) HLE.out _) hb); clear hb))
  go_ret
  exact ⟨rfl, HB6.out⟩
end Go.Proofs.YthkmgjkajllemaaDoor.Spec

/- Parts that make no decimal of govalues are told to be none. -/
namespace Go.Proofs.YthkmgjkajllemaaDoor.Spec
open Go.RowKit Go.Proofs.YthkmgjkajllemaaDoorW.PrintWords Go.Proofs.YthkmgjkajllemaaDoor.Make
set_option linter.unusedVariables false
set_option linter.unusedSimpArgs false

theorem newSafe_bad (neg : Bool) (n : Nat) (z : Int) (w : World) (h : 9999999999999999999 < n ∨ z < 0 ∨ 19 < z) (he : ErrAt w) :
    Calls Tryd.prog 80 #[.bool neg, .int .u64 n, .int .i64 z] w fun e w' => (∃ t v, e = .returned (.tuple #[.agg #[.bool false, .int .i8 0, .int .u64 0], .iface t v])) ∧ Below w.heap.size w w' := by
  by_cases hz : z < 0 ∨ 19 < z
  · exact newSafe_range neg n z w hz he
  · obtain ⟨s, rfl⟩ := Int.eq_ofNat_of_zero_le (show 0 ≤ z by omega)
    exact newSafe_over neg n s w (by omega) (by omega) he
theorem zzMake_bad (neg : Bool) (n : Nat) (z : Int) (w : World) (h : 9999999999999999999 < n ∨ z < 0 ∨ 19 < z) (he : ErrAt w) :
    Calls Tryd.prog 84 #[.bool neg, .int .u64 n, .int .i64 z] w fun e w' => (∃ t v, e = .returned (.tuple #[.agg #[.bool false, .int .i8 0, .int .u64 0], .iface t v])) ∧ Below w.heap.size w w' := by
  have HM := Lib.hid (fun W hW => newSafe_bad neg n z W h hW)
  have HE := Lib.hid (fun (W : World) (hb : Below w.heap.size w W) => he.below hb)
  have HS : Hid (St w (w.alloc (.cells #[.bool false, .int .i8 0, .int .u64 0] 74))
      [(w.heap.size, 0, .bool false), (w.heap.size, 1, .int .i8 0), (w.heap.size, 2, .int .u64 0)] w.heap.size 3) :=
    ⟨Cells.box3 (Cells.nil _) rfl _ _ _ _, fun o _ => free_box rfl _ _ _, by simp, (Below.refl _ _).alloc (Nat.le_refl _) _⟩
  clear h he
  go_enter Tryd.func84, Tryd.ntmps84
  go_wp2_with (first | (go_at_call 80; go_must (refine (HM.out _ (HE.out _ HS.out.below)).mono ?_); rintro e w2 ⟨⟨t, v, rfl⟩, hb⟩; have HS2 := Lib.hid (HS.out.call hb); obtain ⟨d0, d1, d2, -⟩ := HS2.out.cells; have f0 := HS2.out.free 0 (by omega); have f1 := HS2.out.free 1 (by omega); have f2 := HS2.out.free 2 (by omega); have hz := HS2.out.lt; clear hb))
  exact bodyPost_ret (v := .tuple #[.agg #[.bool false, .int .i8 0, .int .u64 0], .iface t v]) (by simp [results, Tryd.results84, go_sem, d0, d1, d2, f0, f1, f2, hz]) rfl ⟨⟨t, v, rfl⟩, ((HS2.out.below.setCell (p := ⟨w.heap.size, 0, none⟩) (Nat.le_refl _) _).setCell (p := ⟨w.heap.size, 1, none⟩) (Nat.le_refl _) _).setCell (p := ⟨w.heap.size, 2, none⟩) (Nat.le_refl _) _⟩

set_option maxHeartbeats 1000000 in
theorem fixed_bad (neg : Bool) (n : Nat) (z : Int) (w : World) (h : 9999999999999999999 < n ∨ z < 0 ∨ 19 < z) (he : ErrAt w) :
    Calls Tryd.prog 48 #[.agg #[.bool neg, .int .u64 n, .int .i64 z]] w fun e w' => e = .returned (.tuple #[.agg #[.bool false, .int .i8 0, .int .u64 0], .bool false]) ∧ Below w.heap.size w w' := by
  have HM := Lib.hid (fun W hW => zzMake_bad neg n z W h hW)
  have HE := Lib.hid (fun (W : World) (hb : Below w.heap.size w W) => he.below hb)
  have HS : Hid (St w ((w.alloc (.cells #[.bool neg, .int .u64 n, .int .i64 z] 32)).alloc (.cells #[.bool false, .int .i8 0, .int .u64 0] 74))
      [(w.heap.size + 1, 0, .bool false), (w.heap.size + 1, 1, .int .i8 0), (w.heap.size + 1, 2, .int .u64 0), (w.heap.size, 0, .bool neg), (w.heap.size, 1, .int .u64 n), (w.heap.size, 2, .int .i64 z)] (w.heap.size + 1) 3) :=
    ⟨Cells.box3 (Cells.box3 (Cells.nil _) rfl _ _ _ _) (by simp) _ _ _ _, fun o _ => free_box (by simp) _ _ _, by simp, ((Below.refl _ _).alloc (Nat.le_refl _) _).alloc (by simp) _⟩
  clear h he
  go_enter Tryd.func48, Tryd.ntmps48
  go_wp2_with (first | (go_at_call 84; go_must (refine (HM.out _ (HE.out _ HS.out.below)).mono ?_); rintro e w2 ⟨⟨t, v, rfl⟩, hb⟩; have HS2 := Lib.hid (HS.out.call hb); have HL := Lib.hid HS2.out.lt; clear hb))
  have hne : w.heap.size + 1 ≠ w2.heap.size := by have := HL.out; omega
  obtain ⟨W, hW⟩ : ∃ W, w2.alloc (.cells #[.bool false, .int .i8 0, .int .u64 0] 74) = W := ⟨_, rfl⟩
  have HS3 := Lib.hid (HS2.out.call ((Below.refl _ _).alloc (Nat.le_refl _) (.cells #[.bool false, .int .i8 0, .int .u64 0] 74)))
  have HC3 : Hid (Cells (w2.alloc (.cells #[.bool false, .int .i8 0, .int .u64 0] 74)) [(w2.heap.size, 0, .bool false), (w2.heap.size, 1, .int .i8 0), (w2.heap.size, 2, .int .u64 0)]) := Cells.box3 (Cells.nil _) rfl _ _ _ _
  rw [hW] at HS3 HC3 ⊢
  clear hW
  obtain ⟨d0, d1, d2, -⟩ := HS3.out.cells
  have f0 := HS3.out.free 0 (by omega)
  have f1 := HS3.out.free 1 (by omega)
  have f2 := HS3.out.free 2 (by omega)
  have hz := HS3.out.lt
  obtain ⟨k0, k1, k2, -⟩ := HC3.out
  go_region_held3 (fun W' => W'.cell? ⟨w2.heap.size, 0, none⟩ = some (.bool false) ∧ W'.cell? ⟨w2.heap.size, 1, none⟩ = some (.int .i8 0) ∧ W'.cell? ⟨w2.heap.size, 2, none⟩ = some (.int .u64 0)) (go_keep) (fail)
  all_goals (go_wp2; exact bodyPost_ret (v := .tuple #[.agg #[.bool false, .int .i8 0, .int .u64 0], .bool false]) (by simp [results, Tryd.results48, go_sem, d0, d1, d2, f0, f1, f2, hz]) rfl ⟨rfl, (((below_drew HS3.out.below).setCell (p := ⟨w.heap.size + 1, 0, none⟩) (Nat.le_succ _) _).setCell (p := ⟨w.heap.size + 1, 1, none⟩) (Nat.le_succ _) _).setCell (p := ⟨w.heap.size + 1, 2, none⟩) (Nat.le_succ _) _⟩)
end Go.Proofs.YthkmgjkajllemaaDoor.Spec

/- FixCeil and FixRescale: the doors to govalues' functions of a decimal and a scale. -/
namespace Go.Proofs.YthkmgjkajllemaaDoor.Spec
open Go.RowKit Go.Proofs.YthkmgjkajllemaaDoorW.PrintWords Go.Proofs.YthkmgjkajllemaaDoor.Make
set_option linter.unusedVariables false
set_option linter.unusedSimpArgs false

set_option maxHeartbeats 1000000 in
theorem fixCeil_ok (neg : Bool) (n s : Nat) (z : Int) (nb : Bool) (m t : Nat) (w : World) (hs : s ≤ 19) (hn : n ≤ 9999999999999999999) (ht : t ≤ 19)
    (hc : ∀ W, Below w.heap.size w W → Calls Tryd.prog 64 #[.agg #[.bool (neg && decide (0 < n)), .int .i8 s, .int .u64 n], .int .i64 z] W fun e w' => e = .returned (.agg #[.bool nb, .int .i8 t, .int .u64 m]) ∧ Below W.heap.size W w') :
    Calls Tryd.prog 27 #[.agg #[.bool neg, .int .u64 n, .int .i64 s], .int .i64 z] w fun e w' => e = .returned (.tuple #[.agg #[.bool nb, .int .u64 m, .int .i64 t], .int .i64 0]) ∧ Below w.heap.size w w' := by
  have hmf : ∀ (fn : Fn) (first cap : Array Value) (w : World), (Instr.makeFunc fn first cap).run Tryd.prog w = .ok (.func fn first cap) w := fun _ _ _ _ => rfl
  have HX := Lib.hid (fun W => fixed_ok neg n s W hs hn)
  have HZ := Lib.hid hc
  generalize (neg && decide (0 < n)) = b at HX HZ
  have HF := Lib.hid (fun W => fix_any nb t m W ht)
  have HS : Hid (St w (((w.alloc (.cells #[.bool neg, .int .u64 n, .int .i64 s] 32)).alloc (.cells #[.bool false, .int .u64 0, .int .i64 0] 32)).alloc (.cells #[.int .i64 0] 3))
      [(w.heap.size + 1, 0, .bool false), (w.heap.size + 1, 1, .int .u64 0), (w.heap.size + 1, 2, .int .i64 0)] (w.heap.size + 1) 3) :=
    St.call ⟨Cells.box3 (Cells.nil _) (by simp) _ _ _ _, fun o _ => free_box (by simp) _ _ _, by simp, ((Below.refl _ _).alloc (Nat.le_refl _) _).alloc (by simp) _⟩ ((Below.refl _ _).alloc (Nat.le_refl _) _)
  have HT : Hid (St w (((w.alloc (.cells #[.bool neg, .int .u64 n, .int .i64 s] 32)).alloc (.cells #[.bool false, .int .u64 0, .int .i64 0] 32)).alloc (.cells #[.int .i64 0] 3))
      [(w.heap.size + 1 + 1, 0, .int .i64 0)] (w.heap.size + 1 + 1) 1) :=
    ⟨Cells.box1 (Cells.nil _) (by simp) _ _, fun o _ => free_box (by simp) _ _ _, by simp, (((Below.refl _ _).alloc (Nat.le_refl _) _).alloc (by simp) _).alloc (by simp; omega) _⟩
  clear hs hn hc ht
  go_enter_defers Tryd.func27, Tryd.ntmps27
  go_wp2_with (first | (go_at_call 48; go_must (refine (HX.out _).mono ?_); rintro e w2 ⟨rfl, hb⟩; have HS2 := Lib.hid (HS.out.call hb); have HT2 := Lib.hid (HT.out.call hb); have HL2 := Lib.hid HS2.out.lt; have HL2' := Lib.hid HT2.out.lt; clear hb) | (go_at_call 64; go_must (refine (HZ.out _ (below_at HS2.out.below _)).mono ?_); rintro e w3 ⟨rfl, hb⟩; have hb1 := below_one _ hb; have HS3 := Lib.hid (HS2.out.call hb1); have HT3 := Lib.hid (HT2.out.call hb1); clear hb hb1) | (go_at_call 45; go_must (refine (HF.out _).mono ?_); rintro e w4 ⟨rfl, hb⟩; have HS4 := Lib.hid (HS3.out.call hb); have HT4 := Lib.hid (HT3.out.call hb); obtain ⟨d0, d1, d2, -⟩ := HS4.out.cells; obtain ⟨d3, -⟩ := HT4.out.cells; have f0 := HS4.out.free 0 (by omega); have f1 := HS4.out.free 1 (by omega); have f2 := HS4.out.free 2 (by omega); have f3 := HT4.out.free 0 (by omega); clear hb))
  refine leaves_cons (f := 63) (args := #[.pointer (some ⟨w.heap.size + 1, 0, none⟩), .pointer (some ⟨w.heap.size + 1 + 1, 0, none⟩)]) (by simp) (by simp [go_sem]) ?_
  refine (idle63 _ _ _).mono ?_
  rintro e u' w'' ⟨rfl, rfl, rfl⟩
  have HE := (((HS4.out.below.setCell (p := ⟨w.heap.size + 1, 0, none⟩) (Nat.le_succ _) (.bool nb)).setCell (p := ⟨w.heap.size + 1, 1, none⟩) (Nat.le_succ _) (.int .u64 m)).setCell (p := ⟨w.heap.size + 1, 2, none⟩) (Nat.le_succ _) (.int .i64 t)).setCell (p := ⟨w.heap.size + 1 + 1, 0, none⟩) (by show w.heap.size ≤ w.heap.size + 1 + 1; omega) (.int .i64 0)
  have hz := HS4.out.lt
  have hz1 := HT4.out.lt
  have hne : w.heap.size + 1 ≠ w.heap.size + 1 + 1 := by omega
  simp [Leaves, settle, results, Tryd.results27, go_sem, d0, d1, d2, d3, f0, f1, f2, f3]
  exact HE
set_option maxHeartbeats 1000000 in
theorem fixCeil_bad (neg : Bool) (n : Nat) (y z : Int) (w : World) (h : 9999999999999999999 < n ∨ y < 0 ∨ 19 < y) (he : ErrAt w) :
    Calls Tryd.prog 27 #[.agg #[.bool neg, .int .u64 n, .int .i64 y], .int .i64 z] w fun e w' => e = .returned (.tuple #[.agg #[.bool false, .int .u64 0, .int .i64 0], .int .i64 3]) ∧ Below w.heap.size w w' := by
  have hmf : ∀ (fn : Fn) (first cap : Array Value) (w : World), (Instr.makeFunc fn first cap).run Tryd.prog w = .ok (.func fn first cap) w := fun _ _ _ _ => rfl
  have HX := Lib.hid (fun W hW => fixed_bad neg n y W h hW)
  have HEr := Lib.hid (fun (W : World) (hb : Below w.heap.size w W) => he.below hb)
  have HS : Hid (St w (((w.alloc (.cells #[.bool neg, .int .u64 n, .int .i64 y] 32)).alloc (.cells #[.bool false, .int .u64 0, .int .i64 0] 32)).alloc (.cells #[.int .i64 0] 3))
      [(w.heap.size + 1, 0, .bool false), (w.heap.size + 1, 1, .int .u64 0), (w.heap.size + 1, 2, .int .i64 0)] (w.heap.size + 1) 3) :=
    St.call ⟨Cells.box3 (Cells.nil _) (by simp) _ _ _ _, fun o _ => free_box (by simp) _ _ _, by simp, ((Below.refl _ _).alloc (Nat.le_refl _) _).alloc (by simp) _⟩ ((Below.refl _ _).alloc (Nat.le_refl _) _)
  have HT : Hid (St w (((w.alloc (.cells #[.bool neg, .int .u64 n, .int .i64 y] 32)).alloc (.cells #[.bool false, .int .u64 0, .int .i64 0] 32)).alloc (.cells #[.int .i64 0] 3))
      [(w.heap.size + 1 + 1, 0, .int .i64 0)] (w.heap.size + 1 + 1) 1) :=
    ⟨Cells.box1 (Cells.nil _) (by simp) _ _, fun o _ => free_box (by simp) _ _ _, by simp, (((Below.refl _ _).alloc (Nat.le_refl _) _).alloc (by simp) _).alloc (by simp; omega) _⟩
  clear h he
  go_enter_defers Tryd.func27, Tryd.ntmps27
  go_wp2_with (first | (go_at_call 48; go_must (refine (HX.out _ (HEr.out _ HS.out.below)).mono ?_); rintro e w2 ⟨rfl, hb⟩; have HS2 := Lib.hid (HS.out.call hb); have HT2 := Lib.hid (HT.out.call hb); have HL2 := Lib.hid HS2.out.lt; have HL2' := Lib.hid HT2.out.lt; have HO := Lib.hid (below_at (Below.refl w2.heap.size w2) (.cells #[.bool false, .int .i8 0, .int .u64 0] 74)); have HS4 := Lib.hid (HS2.out.call HO.out); have HT4 := Lib.hid (HT2.out.call HO.out); obtain ⟨d0, d1, d2, -⟩ := HS4.out.cells; obtain ⟨d3, -⟩ := HT4.out.cells; have f0 := HS4.out.free 0 (by omega); have f1 := HS4.out.free 1 (by omega); have f2 := HS4.out.free 2 (by omega); have f3 := HT4.out.free 0 (by omega); clear hb))
  refine leaves_cons (f := 63) (args := #[.pointer (some ⟨w.heap.size + 1, 0, none⟩), .pointer (some ⟨w.heap.size + 1 + 1, 0, none⟩)]) (by simp) (by simp [go_sem]) ?_
  refine (idle63 _ _ _).mono ?_
  rintro e u' w'' ⟨rfl, rfl, rfl⟩
  have HE := (((HS4.out.below.setCell (p := ⟨w.heap.size + 1, 0, none⟩) (Nat.le_succ _) (.bool false)).setCell (p := ⟨w.heap.size + 1, 1, none⟩) (Nat.le_succ _) (.int .u64 0)).setCell (p := ⟨w.heap.size + 1, 2, none⟩) (Nat.le_succ _) (.int .i64 0)).setCell (p := ⟨w.heap.size + 1 + 1, 0, none⟩) (by show w.heap.size ≤ w.heap.size + 1 + 1; omega) (.int .i64 3)
  have hz := HS4.out.lt
  have hz1 := HT4.out.lt
  have hne : w.heap.size + 1 ≠ w.heap.size + 1 + 1 := by omega
  simp [Leaves, settle, results, Tryd.results27, go_sem, d0, d1, d2, d3, f0, f1, f2, f3]
  exact HE
set_option maxHeartbeats 1000000 in
theorem fixRescale_ok (neg : Bool) (n s : Nat) (z : Int) (nb : Bool) (m t : Nat) (w : World) (hs : s ≤ 19) (hn : n ≤ 9999999999999999999) (ht : t ≤ 19)
    (hc : ∀ W, Below w.heap.size w W → Calls Tryd.prog 72 #[.agg #[.bool (neg && decide (0 < n)), .int .i8 s, .int .u64 n], .int .i64 z] W fun e w' => e = .returned (.agg #[.bool nb, .int .i8 t, .int .u64 m]) ∧ Below W.heap.size W w') :
    Calls Tryd.prog 37 #[.agg #[.bool neg, .int .u64 n, .int .i64 s], .int .i64 z] w fun e w' => e = .returned (.tuple #[.agg #[.bool nb, .int .u64 m, .int .i64 t], .int .i64 0]) ∧ Below w.heap.size w w' := by
  have hmf : ∀ (fn : Fn) (first cap : Array Value) (w : World), (Instr.makeFunc fn first cap).run Tryd.prog w = .ok (.func fn first cap) w := fun _ _ _ _ => rfl
  have HX := Lib.hid (fun W => fixed_ok neg n s W hs hn)
  have HZ := Lib.hid hc
  generalize (neg && decide (0 < n)) = b at HX HZ
  have HF := Lib.hid (fun W => fix_any nb t m W ht)
  have HS : Hid (St w (((w.alloc (.cells #[.bool neg, .int .u64 n, .int .i64 s] 32)).alloc (.cells #[.bool false, .int .u64 0, .int .i64 0] 32)).alloc (.cells #[.int .i64 0] 3))
      [(w.heap.size + 1, 0, .bool false), (w.heap.size + 1, 1, .int .u64 0), (w.heap.size + 1, 2, .int .i64 0)] (w.heap.size + 1) 3) :=
    St.call ⟨Cells.box3 (Cells.nil _) (by simp) _ _ _ _, fun o _ => free_box (by simp) _ _ _, by simp, ((Below.refl _ _).alloc (Nat.le_refl _) _).alloc (by simp) _⟩ ((Below.refl _ _).alloc (Nat.le_refl _) _)
  have HT : Hid (St w (((w.alloc (.cells #[.bool neg, .int .u64 n, .int .i64 s] 32)).alloc (.cells #[.bool false, .int .u64 0, .int .i64 0] 32)).alloc (.cells #[.int .i64 0] 3))
      [(w.heap.size + 1 + 1, 0, .int .i64 0)] (w.heap.size + 1 + 1) 1) :=
    ⟨Cells.box1 (Cells.nil _) (by simp) _ _, fun o _ => free_box (by simp) _ _ _, by simp, (((Below.refl _ _).alloc (Nat.le_refl _) _).alloc (by simp) _).alloc (by simp; omega) _⟩
  clear hs hn hc ht
  go_enter_defers Tryd.func37, Tryd.ntmps37
  go_wp2_with (first | (go_at_call 48; go_must (refine (HX.out _).mono ?_); rintro e w2 ⟨rfl, hb⟩; have HS2 := Lib.hid (HS.out.call hb); have HT2 := Lib.hid (HT.out.call hb); have HL2 := Lib.hid HS2.out.lt; have HL2' := Lib.hid HT2.out.lt; clear hb) | (go_at_call 72; go_must (refine (HZ.out _ (below_at HS2.out.below _)).mono ?_); rintro e w3 ⟨rfl, hb⟩; have hb1 := below_one _ hb; have HS3 := Lib.hid (HS2.out.call hb1); have HT3 := Lib.hid (HT2.out.call hb1); clear hb hb1) | (go_at_call 45; go_must (refine (HF.out _).mono ?_); rintro e w4 ⟨rfl, hb⟩; have HS4 := Lib.hid (HS3.out.call hb); have HT4 := Lib.hid (HT3.out.call hb); obtain ⟨d0, d1, d2, -⟩ := HS4.out.cells; obtain ⟨d3, -⟩ := HT4.out.cells; have f0 := HS4.out.free 0 (by omega); have f1 := HS4.out.free 1 (by omega); have f2 := HS4.out.free 2 (by omega); have f3 := HT4.out.free 0 (by omega); clear hb))
  refine leaves_cons (f := 71) (args := #[.pointer (some ⟨w.heap.size + 1, 0, none⟩), .pointer (some ⟨w.heap.size + 1 + 1, 0, none⟩)]) (by simp) (by simp [go_sem]) ?_
  refine (idle71 _ _ _).mono ?_
  rintro e u' w'' ⟨rfl, rfl, rfl⟩
  have HE := (((HS4.out.below.setCell (p := ⟨w.heap.size + 1, 0, none⟩) (Nat.le_succ _) (.bool nb)).setCell (p := ⟨w.heap.size + 1, 1, none⟩) (Nat.le_succ _) (.int .u64 m)).setCell (p := ⟨w.heap.size + 1, 2, none⟩) (Nat.le_succ _) (.int .i64 t)).setCell (p := ⟨w.heap.size + 1 + 1, 0, none⟩) (by show w.heap.size ≤ w.heap.size + 1 + 1; omega) (.int .i64 0)
  have hz := HS4.out.lt
  have hz1 := HT4.out.lt
  have hne : w.heap.size + 1 ≠ w.heap.size + 1 + 1 := by omega
  simp [Leaves, settle, results, Tryd.results37, go_sem, d0, d1, d2, d3, f0, f1, f2, f3]
  exact HE
set_option maxHeartbeats 1000000 in
theorem fixRescale_bad (neg : Bool) (n : Nat) (y z : Int) (w : World) (h : 9999999999999999999 < n ∨ y < 0 ∨ 19 < y) (he : ErrAt w) :
    Calls Tryd.prog 37 #[.agg #[.bool neg, .int .u64 n, .int .i64 y], .int .i64 z] w fun e w' => e = .returned (.tuple #[.agg #[.bool false, .int .u64 0, .int .i64 0], .int .i64 3]) ∧ Below w.heap.size w w' := by
  have hmf : ∀ (fn : Fn) (first cap : Array Value) (w : World), (Instr.makeFunc fn first cap).run Tryd.prog w = .ok (.func fn first cap) w := fun _ _ _ _ => rfl
  have HX := Lib.hid (fun W hW => fixed_bad neg n y W h hW)
  have HEr := Lib.hid (fun (W : World) (hb : Below w.heap.size w W) => he.below hb)
  have HS : Hid (St w (((w.alloc (.cells #[.bool neg, .int .u64 n, .int .i64 y] 32)).alloc (.cells #[.bool false, .int .u64 0, .int .i64 0] 32)).alloc (.cells #[.int .i64 0] 3))
      [(w.heap.size + 1, 0, .bool false), (w.heap.size + 1, 1, .int .u64 0), (w.heap.size + 1, 2, .int .i64 0)] (w.heap.size + 1) 3) :=
    St.call ⟨Cells.box3 (Cells.nil _) (by simp) _ _ _ _, fun o _ => free_box (by simp) _ _ _, by simp, ((Below.refl _ _).alloc (Nat.le_refl _) _).alloc (by simp) _⟩ ((Below.refl _ _).alloc (Nat.le_refl _) _)
  have HT : Hid (St w (((w.alloc (.cells #[.bool neg, .int .u64 n, .int .i64 y] 32)).alloc (.cells #[.bool false, .int .u64 0, .int .i64 0] 32)).alloc (.cells #[.int .i64 0] 3))
      [(w.heap.size + 1 + 1, 0, .int .i64 0)] (w.heap.size + 1 + 1) 1) :=
    ⟨Cells.box1 (Cells.nil _) (by simp) _ _, fun o _ => free_box (by simp) _ _ _, by simp, (((Below.refl _ _).alloc (Nat.le_refl _) _).alloc (by simp) _).alloc (by simp; omega) _⟩
  clear h he
  go_enter_defers Tryd.func37, Tryd.ntmps37
  go_wp2_with (first | (go_at_call 48; go_must (refine (HX.out _ (HEr.out _ HS.out.below)).mono ?_); rintro e w2 ⟨rfl, hb⟩; have HS2 := Lib.hid (HS.out.call hb); have HT2 := Lib.hid (HT.out.call hb); have HL2 := Lib.hid HS2.out.lt; have HL2' := Lib.hid HT2.out.lt; have HO := Lib.hid (below_at (Below.refl w2.heap.size w2) (.cells #[.bool false, .int .i8 0, .int .u64 0] 74)); have HS4 := Lib.hid (HS2.out.call HO.out); have HT4 := Lib.hid (HT2.out.call HO.out); obtain ⟨d0, d1, d2, -⟩ := HS4.out.cells; obtain ⟨d3, -⟩ := HT4.out.cells; have f0 := HS4.out.free 0 (by omega); have f1 := HS4.out.free 1 (by omega); have f2 := HS4.out.free 2 (by omega); have f3 := HT4.out.free 0 (by omega); clear hb))
  refine leaves_cons (f := 71) (args := #[.pointer (some ⟨w.heap.size + 1, 0, none⟩), .pointer (some ⟨w.heap.size + 1 + 1, 0, none⟩)]) (by simp) (by simp [go_sem]) ?_
  refine (idle71 _ _ _).mono ?_
  rintro e u' w'' ⟨rfl, rfl, rfl⟩
  have HE := (((HS4.out.below.setCell (p := ⟨w.heap.size + 1, 0, none⟩) (Nat.le_succ _) (.bool false)).setCell (p := ⟨w.heap.size + 1, 1, none⟩) (Nat.le_succ _) (.int .u64 0)).setCell (p := ⟨w.heap.size + 1, 2, none⟩) (Nat.le_succ _) (.int .i64 0)).setCell (p := ⟨w.heap.size + 1 + 1, 0, none⟩) (by show w.heap.size ≤ w.heap.size + 1 + 1; omega) (.int .i64 3)
  have hz := HS4.out.lt
  have hz1 := HT4.out.lt
  have hne : w.heap.size + 1 ≠ w.heap.size + 1 + 1 := by omega
  simp [Leaves, settle, results, Tryd.results37, go_sem, d0, d1, d2, d3, f0, f1, f2, f3]
  exact HE
end Go.Proofs.YthkmgjkajllemaaDoor.Spec

/- The law FnFixCeil answers true for every decimal and every scale. -/
namespace Go.Proofs.YthkmgjkajllemaaDoor.Spec
open Go.RowKit Go.Proofs.YthkmgjkajllemaaDoorW.PrintWords Go.Proofs.YthkmgjkajllemaaDoor.Num Go.Proofs.YthkmgjkajllemaaDoor.Make
set_option linter.unusedVariables false
set_option linter.unusedSimpArgs false

/-- The law's walk over a decimal, out of what its two calls tell. -/
theorem ceil_law_of (neg : Bool) (n s : Nat) (z : Int) (nb : Bool) (m t : Nat) (w : World) (hs : s ≤ 19) (hn : n ≤ 9999999999999999999)
    (h1 : ∀ W, Below w.heap.size w W → Calls Tryd.prog 27 #[.agg #[.bool neg, .int .u64 n, .int .i64 s], .int .i64 z] W fun e w' => e = .returned (.tuple #[.agg #[.bool nb, .int .u64 m, .int .i64 t], .int .i64 0]) ∧ Below W.heap.size W w')
    (h2 : ∀ W, Calls Tryd.prog 28 #[.agg #[.bool neg, .int .u64 n, .int .i64 s], .agg #[.bool nb, .int .u64 m, .int .i64 t], .int .i64 0, .int .i64 z, .int .i64 3] W fun e w' => e = .returned (.bool true) ∧ Below W.heap.size W w') :
    Calls Tryd.prog 6 #[.agg #[.bool neg, .int .u64 n, .int .i64 s], .int .i64 z] w fun e w' => e = .returned (.bool true) ∧ Below w.heap.size w w' := by
  have HI := Lib.hid (fun W => fixIs_ok neg n s W hn hs)
  have H1 := Lib.hid h1
  have H2 := Lib.hid h2
  have HS : Hid (St w (w.alloc (.cells #[.bool neg, .int .u64 n, .int .i64 s] 32)) [(w.heap.size, 0, .bool neg), (w.heap.size, 1, .int .u64 n), (w.heap.size, 2, .int .i64 s)] w.heap.size 0) :=
    ⟨Cells.box3 (Cells.nil _) rfl _ _ _ _, fun o ho => absurd ho (by omega), by simp, (Below.refl _ _).alloc (Nat.le_refl _) _⟩
  clear hs hn h1 h2
  go_enter Tryd.func6, Tryd.ntmps6
  go_wp2_with (first | (go_at_call 27; go_must (refine (H1.out _ HS.out.below).mono ?_); rintro e w2 ⟨rfl, hb⟩; have HS2 := Lib.hid (HS.out.call hb); have HO3 := Lib.hid (below_at (Below.refl w2.heap.size w2) (.cells #[.bool nb, .int .u64 m, .int .i64 t] 32)); have HS3 := Lib.hid (HS2.out.call HO3.out); have HW3 : Hid (St w (w2.alloc (.cells #[.bool nb, .int .u64 m, .int .i64 t] 32)) [(w2.heap.size, 0, .bool nb), (w2.heap.size, 1, .int .u64 m), (w2.heap.size, 2, .int .i64 t)] w2.heap.size 0) := Lib.hid ⟨Cells.box3 (Cells.nil _) rfl _ _ _ _, fun o ho => absurd ho (by omega), by simp, HS3.out.below⟩; obtain ⟨a0, a1, a2, -⟩ := HS3.out.cells; clear hb) | (go_at_call 20; go_must (refine (HI.out _).mono ?_); rintro e w4 ⟨rfl, hb⟩; have HS4 := Lib.hid (HS3.out.call hb); have HW4 := Lib.hid (HW3.out.call hb); obtain ⟨b0, b1, b2, -⟩ := HS4.out.cells; obtain ⟨c0, c1, c2, -⟩ := HW4.out.cells; clear hb) | (go_at_call 28; go_must (refine (H2.out _).mono ?_); rintro e w5 ⟨rfl, hb⟩; have HS5 := Lib.hid (HS4.out.call hb); clear hb))
  go_ret
  exact ⟨rfl, HS5.out.below⟩
theorem ceil_law_bad (neg : Bool) (n : Nat) (y z : Int) (w : World) (h : 9999999999999999999 < n ∨ y < 0 ∨ 19 < y) (he : ErrAt w) :
    Calls Tryd.prog 6 #[.agg #[.bool neg, .int .u64 n, .int .i64 y], .int .i64 z] w fun e w' => e = .returned (.bool true) ∧ Below w.heap.size w w' := by
  have HI : Hid (∀ W, Calls Tryd.prog 20 #[.agg #[.bool neg, .int .u64 n, .int .i64 y]] W fun e w' => e = .returned (.bool false) ∧ Below W.heap.size W w') := by
    refine Lib.hid (fun W => ?_)
    by_cases hn : 9999999999999999999 < n
    · exact fixIs_big neg n y W hn
    · exact fixIs_scale neg n y W (by omega) (by omega)
  have H1 := Lib.hid (fun W hW => fixCeil_bad neg n y z W h hW)
  have HEr := Lib.hid (fun (W : World) (hb : Below w.heap.size w W) => he.below hb)
  have HS : Hid (St w (w.alloc (.cells #[.bool neg, .int .u64 n, .int .i64 y] 32)) [(w.heap.size, 0, .bool neg), (w.heap.size, 1, .int .u64 n), (w.heap.size, 2, .int .i64 y)] w.heap.size 0) :=
    ⟨Cells.box3 (Cells.nil _) rfl _ _ _ _, fun o ho => absurd ho (by omega), by simp, (Below.refl _ _).alloc (Nat.le_refl _) _⟩
  clear h he
  go_enter Tryd.func6, Tryd.ntmps6
  go_wp2_with (first | (go_at_call 27; go_must (refine (H1.out _ (HEr.out _ HS.out.below)).mono ?_); rintro e w2 ⟨rfl, hb⟩; have HS2 := Lib.hid (HS.out.call hb); have HO3 := Lib.hid (below_at (Below.refl w2.heap.size w2) (.cells #[.bool false, .int .u64 0, .int .i64 0] 32)); have HS3 := Lib.hid (HS2.out.call HO3.out); obtain ⟨a0, a1, a2, -⟩ := HS3.out.cells; clear hb) | (go_at_call 20; go_must (refine (HI.out _).mono ?_); rintro e w4 ⟨rfl, hb⟩; have HS4 := Lib.hid (HS3.out.call hb); clear hb))
  go_ret
  exact ⟨rfl, HS4.out.below⟩
theorem pow_at {w W : World} (hp : Fint.PowAt w) (i : Nat) (hi : i < 20) (hb : Below w.heap.size w W) : W.cell? ⟨0, i, none⟩ = some (.int .u64 ((10 ^ i : Nat) : Int)) := pw_cell_below hb (hp i hi)
theorem div_le10 (n d : Nat) (hn : n ≤ 9999999999999999999) (hd : 1 ≤ d) : n / 10 ^ d ≤ 999999999999999999 := by
  have h : n / 10 ^ d ≤ n / 10 := Nat.div_le_div_left (ten_le d hd).1 (by decide)
  omega
theorem rUp_le (n d : Nat) (hn : n ≤ 9999999999999999999) (hd : 1 ≤ d) : rUp n d ≤ 9999999999999999999 := by
  have := div_le10 n d hn hd
  unfold rUp
  split <;> omega
/-- The law. -/
theorem ceil_law (neg : Bool) (n : Nat) (y z : Int) (w : World) (hp : Fint.PowAt w) (he : ErrAt w) (hz0 : -9223372036854775808 ≤ z) (hz1 : z ≤ 9223372036854775807) :
    Calls Tryd.prog 6 #[.agg #[.bool neg, .int .u64 n, .int .i64 y], .int .i64 z] w fun e w' => e = .returned (.bool true) ∧ Below w.heap.size w w' := by
  by_cases h : 9999999999999999999 < n ∨ y < 0 ∨ 19 < y
  · exact ceil_law_bad neg n y z w h he
  · obtain ⟨s, rfl⟩ := Int.eq_ofNat_of_zero_le (show 0 ≤ y by omega)
    have hs : s ≤ 19 := by omega
    have hn : n ≤ 9999999999999999999 := by omega
    clear h
    by_cases hz : z < 0
    · by_cases h0 : s = 0
      · exact ceil_law_of neg n s z (neg && decide (0 < n)) n s w hs hn
          (fun W hW => fixCeil_ok neg n s z _ n s W hs hn hs (fun W' hW' => ceil_stay_neg _ n s W' hs z hz hz0 h0))
          (fun W => gvTo_stay_neg neg n s hn z 3 W h0 hz hz0)
      · cases hb : (neg && decide (0 < n))
        · have hm : rq 3 (neg && decide (0 < n)) (n * 10 ^ 0) (10 ^ s) = rUp n (s - 0) := by
            have := rq_ceil (neg && decide (0 < n)) n 0 s
            rw [Nat.zero_add] at this
            rw [this, hb]; rfl
          have g := gvTo_round_neg neg n s hn (rUp n (s - 0)) z 3
          refine ceil_law_of neg n s z (neg && decide (0 < n) && decide (0 < rUp n (s - 0))) (rUp n (s - 0)) 0 w hs hn
            (fun W hW => fixCeil_ok neg n s z _ (rUp n (s - 0)) 0 W hs hn (by omega) (fun W' hW' => ceil_neg_up _ n s W' hs hn z hz hz0 (by omega) hb (pow_at hp _ (by omega) (below_by hW hW'))))
            (fun W => g W hs hz hz0 (by omega) hm (rUp_le n _ hn (by omega)))
        · have hm : rq 3 (neg && decide (0 < n)) (n * 10 ^ 0) (10 ^ s) = n / 10 ^ (s - 0) := by
            have := rq_ceil (neg && decide (0 < n)) n 0 s
            rw [Nat.zero_add] at this
            rw [this, hb]; rfl
          have g := gvTo_round_neg neg n s hn (n / 10 ^ (s - 0)) z 3
          refine ceil_law_of neg n s z (neg && decide (0 < n) && decide (0 < n / 10 ^ (s - 0))) (n / 10 ^ (s - 0)) 0 w hs hn
            (fun W hW => fixCeil_ok neg n s z _ (n / 10 ^ (s - 0)) 0 W hs hn (by omega) (fun W' hW' => ceil_neg_down _ n s W' hs hn z hz hz0 (by omega) hb (pow_at hp _ (by omega) (below_by hW hW'))))
            (fun W => g W hs hz hz0 (by omega) hm (by have := div_le10 n (s - 0) hn (by omega); omega))
    · obtain ⟨k, rfl⟩ := Int.eq_ofNat_of_zero_le (show 0 ≤ z by omega)
      by_cases hk : s ≤ k
      · exact ceil_law_of neg n s k (neg && decide (0 < n)) n s w hs hn
          (fun W hW => fixCeil_ok neg n s k _ n s W hs hn hs (fun W' hW' => ceil_stay_nat _ n s W' hs k hk))
          (fun W => gvTo_stay_nat neg n s hn k 3 W hs hk (by omega))
      · have hks : k + (s - k) = s := by omega
        cases hb : (neg && decide (0 < n))
        · have hm : rq 3 (neg && decide (0 < n)) (n * 10 ^ k) (10 ^ s) = rUp n (s - k) := by
            have := rq_ceil (neg && decide (0 < n)) n k (s - k)
            rw [hks] at this
            rw [this, hb]; rfl
          refine ceil_law_of neg n s k (neg && decide (0 < n) && decide (0 < rUp n (s - k))) (rUp n (s - k)) k w hs hn
            (fun W hW => fixCeil_ok neg n s k _ (rUp n (s - k)) k W hs hn (by omega) (fun W' hW' => ceil_nat_up _ n s W' hs hn k (by omega) hb (pow_at hp _ (by omega) (below_by hW hW'))))
            (fun W => gvTo_round_nat neg n s hn (rUp n (s - k)) k 3 W hs (by omega) hm (rUp_le n _ hn (by omega)))
        · have hm : rq 3 (neg && decide (0 < n)) (n * 10 ^ k) (10 ^ s) = n / 10 ^ (s - k) := by
            have := rq_ceil (neg && decide (0 < n)) n k (s - k)
            rw [hks] at this
            rw [this, hb]; rfl
          refine ceil_law_of neg n s k (neg && decide (0 < n) && decide (0 < n / 10 ^ (s - k))) (n / 10 ^ (s - k)) k w hs hn
            (fun W hW => fixCeil_ok neg n s k _ (n / 10 ^ (s - k)) k W hs hn (by omega) (fun W' hW' => ceil_nat_down _ n s W' hs hn k (by omega) hb (pow_at hp _ (by omega) (below_by hW hW'))))
            (fun W => gvTo_round_nat neg n s hn (n / 10 ^ (s - k)) k 3 W hs (by omega) hm (by have := div_le10 n (s - k) hn (by omega); omega))
end Go.Proofs.YthkmgjkajllemaaDoor.Spec

/- What the rows' lists of package-level variables give the walks: the table of powers of ten lies in memory. -/
namespace Go.Proofs.YthkmgjkajllemaaDoor.Laid
open Go.RowKit
theorem own : ownKnob Tryd.prog.godebug = none := by kernel_rfl
theorem laidOut : laidOutB Tryd.prog = true := by kernel_rfl
theorem gPow : Tryd.prog.globalNamed "given.example/pub-alexandrine/pub/govalues.pow10" = some 0 := by kernel_rfl
theorem gPowType : (Tryd.prog.globals[0]?).map (·.type) = some 112 := by kernel_rfl
theorem cells112 : Tryd.prog.cellsOf 112 = 20 := by kernel_rfl
theorem cells72 : Tryd.prog.cellsOf 72 = 1 := by kernel_rfl

/-- The table's numbers. -/
def zs : List Int := [1, 10, 100, 1000, 10000, 100000, 1000000, 10000000, 100000000, 1000000000, 10000000000, 100000000000, 1000000000000, 10000000000000, 100000000000000, 1000000000000000, 10000000000000000, 100000000000000000, 1000000000000000000, 10000000000000000000]
theorem zs_at (i : Nat) (h : i < 20) : zs.getD i 0 = Fint.p10 i :=
  (show ∀ i : Fin 20, zs.getD i.1 0 = Fint.p10 i.1 by unfold Fint.p10; decide +kernel) ⟨i, h⟩

/-- What the row's list gives the walks. -/
theorem powAt_of_head {W : World} {rest : List (String × DataW Unit)} (h : laidMet Tryd.prog (("given.example/pub-alexandrine/pub/govalues.pow10", Rows.laid_given_example_pub_alexandrine_pub_govalues_pow10) :: rest) W) : Fint.PowAt W := by
  have hT : Lib.TabIs Tryd.prog W "given.example/pub-alexandrine/pub/govalues.pow10" .u64 zs := Lib.tabIs_of_head gPow gPowType Tryd.underlying112 Tryd.underlying72 cells72 cells112 h
  intro i hi
  rw [← zs_at i hi]
  exact hT.cell gPow i hi

end Go.Proofs.YthkmgjkajllemaaDoor.Laid

/- What the rows' lists of package-level variables give the walks: the package's two errors are none that is nil. -/
namespace Go.Proofs.YthkmgjkajllemaaDoor.LaidErr
open Go.RowKit

theorem star : "*errors.errorString" = "*" ++ "errors.errorString" := rfl
theorem row140 (u : TypeId) (h : Tryd.prog.typeName? 3 u = some "*errors.errorString") : u = 140 :=
  typeName_ptr_named (nm := "errors.errorString") (by rw [← star]; kernel_rfl) (by kernel_rfl) (by decide) u (by rw [← star]; exact h)
theorem gRange : Tryd.prog.globalNamed "given.example/pub-alexandrine/pub/govalues.errScaleRange" = some 2 := by kernel_rfl
theorem gRangeType : (Tryd.prog.globals[2]?).map (·.type) = some 76 := by kernel_rfl
theorem gOver : Tryd.prog.globalNamed "given.example/pub-alexandrine/pub/govalues.errDecimalOverflow" = some 3 := by kernel_rfl
theorem gOverType : (Tryd.prog.globals[3]?).map (·.type) = some 76 := by kernel_rfl
theorem cells142 : Tryd.prog.cellsOf 142 = 1 := by kernel_rfl
theorem cells9 : Tryd.prog.cellsOf 9 = 1 := by kernel_rfl

theorem errAt_of_head {W : World} {rest : List (String × DataW Unit)}
    (h : laidMet Tryd.prog (("given.example/pub-alexandrine/pub/govalues.errDecimalOverflow", Rows.laid_given_example_pub_alexandrine_pub_govalues_errDecimalOverflow) :: ("given.example/pub-alexandrine/pub/govalues.errScaleRange", Rows.laid_given_example_pub_alexandrine_pub_govalues_errScaleRange) :: rest) W) : Make.ErrAt W := by
  obtain ⟨a0, s0, hv0, _, _, _⟩ := laid_sentinel h gOver gOverType Tryd.underlying76 row140 Tryd.underlying140 Tryd.underlying142 rfl rfl Tryd.underlying9 cells142 cells9
  obtain ⟨a1, s1, hv1, _, _, _⟩ := laid_sentinel h.tail gRange gRangeType Tryd.underlying76 row140 Tryd.underlying140 Tryd.underlying142 rfl rfl Tryd.underlying9 cells142 cells9
  have h3 := World.var?_cell gOver hv0 0
  have h2 := World.var?_cell gRange hv1 0
  exact ⟨⟨_, _, h2⟩, ⟨_, _, h3⟩, World.block_lt_of_cell? W _ h3⟩
end Go.Proofs.YthkmgjkajllemaaDoor.LaidErr

/- A decimal of govalues that comes in as data: three parts; and what the rows that list the errors and the powers of ten give the walks. -/
namespace Go.Proofs.YthkmgjkajllemaaDoor.FixArg
open Go.ChangeShapes Go.WideShapes Go.ChangeAt Go.RowKit Go.Joins
set_option linter.unusedVariables false

theorem cells32 : Tryd.prog.cellsOf 32 = 3 := by kernel_rfl
set_option maxRecDepth 100000 in
theorem open_fix {H : Type} {enc : TypeId × Value → H} {W : World} {base : Nat} {sp : Nat → Bool} {hd : Bool} {r : Reach} {b0 : Nat} {v : Value} {d : DataW H} {p : List MemPlace}
    (hv : Value.okWide Tryd.prog W r b0 32 v) (h : DataW.Trod enc Tryd.prog W base sp hd 32 v d p) :
    ∃ (neg : Bool) (n : Nat) (z : Int), v = .agg #[.bool neg, .int .u64 n, .int .i64 z] ∧ d = .agg [.lit (.bool neg), .lit (.int .u64 n), .lit (.int .i64 z)] ∧ p = [] ∧ n < 18446744073709551616 ∧ (Lit.int .i64 z).wf = true := by
  obtain ⟨c0, c1, c2, y0, y1, y2, m, rfl, rfl, rfl, hy0, hy1, hy2⟩ := open_agg3 Tryd.underlying32 (by kernel_rfl) cells32 hv h
  obtain ⟨x, e0, rfl⟩ := DataW.trod_bool Tryd.underlying4 hy0
  obtain ⟨y, e1, rfl, wy⟩ := DataW.trod_int Tryd.underlying22 hy1
  obtain ⟨z, e2, rfl, wz⟩ := DataW.trod_int Tryd.underlying3 hy2
  simp at e0 e1 e2
  subst e0 e1 e2
  have hy := bounds_u64 wy
  obtain ⟨n, rfl⟩ := Int.eq_ofNat_of_zero_le hy.1
  exact ⟨x, n, z, rfl, rfl, rfl, by have := hy.2; omega, wz⟩
set_option maxRecDepth 100000 in
theorem shut_fix {H : Type} {enc : TypeId × Value → H} (W' : World) (b : Nat) (sp : Nat → Bool) (hd : Bool) (neg : Bool) (n : Nat) (z : Int) (hn : n < 18446744073709551616) (wz : (Lit.int .i64 z).wf = true) :
    DataW.Trod enc Tryd.prog W' b sp hd 32 (.agg #[.bool neg, .int .u64 n, .int .i64 z]) (.agg [.lit (.bool neg), .lit (.int .u64 n), .lit (.int .i64 z)]) [] := by
  have wn : (Lit.int .u64 (n : Int)).wf = true := by go_wf
  simpa using shut_agg3 (enc := enc) (w := W') (base := b) (spare := sp) (held := hd) (y0 := (.lit (.bool neg), [])) (y1 := (.lit (.int .u64 n), [])) (y2 := (.lit (.int .i64 z), [])) Tryd.underlying32 (by kernel_rfl) cells32 ⟨1, by simp [DataW.trod, Tryd.underlying4]⟩ ⟨1, by simp [DataW.trod, Tryd.underlying22, wn]⟩ ⟨1, by simp [DataW.trod, Tryd.underlying3, wz]⟩

/-- What a row that lists the two errors and the table gives. -/
theorem laid_both {W : World} (h : laidMet Tryd.prog Rows.fnFixUnitsRow.laid W) : Make.ErrAt W ∧ Fint.PowAt W :=
  ⟨LaidErr.errAt_of_head h, Laid.powAt_of_head h.tail.tail⟩

/-- What lists of three variables read as. -/
theorem three_vars {H : Type} {enc : TypeId × Value → H} {P : Program} {W : World} {sp : Nat → Bool} {gs : List (DataW H)} {q : List MemPlace} {a b c : String} (hV : DataW.TrodVars enc P W sp [a, b, c] gs q) : ∃ g1 g2 g3, gs = [g1, g2, g3] := by
  obtain _ | ⟨g1, gs⟩ := gs
  · exact hV.elim
  · obtain ⟨_, _, _, _, _, _, _, _, _, _, hs, _⟩ := hV
    obtain _ | ⟨g2, gs⟩ := gs
    · exact hs.elim
    · obtain ⟨_, _, _, _, _, _, _, _, _, _, hs, _⟩ := hs
      obtain _ | ⟨g3, gs⟩ := gs
      · exact hs.elim
      · obtain ⟨_, _, _, _, _, _, _, _, _, _, hs, _⟩ := hs
        obtain _ | ⟨g4, gs⟩ := gs
        · exact ⟨g1, g2, g3, rfl⟩
        · exact hs.elim
end Go.Proofs.YthkmgjkajllemaaDoor.FixArg

namespace Go.Proofs.YthkmgjkajllemaaDoor.fnFixCeil
open Go.ChangeShapes Go.WideShapes Go.ChangeAt Go.RowKit
set_option linter.unusedVariables false

open FixArg

theorem own : ownKnob Tryd.prog.godebug = none := by kernel_rfl
theorem laidOut : laidOutB Tryd.prog = true := by kernel_rfl

/-- The door's own heap meets the condition. -/
theorem door_met (os : Os) (args : Array Value) : laidMetH Tryd.prog Rows.fnFixCeilRow.laid ((World.doorLaid Tryd.prog 166 os).forCall (fun _ _ => 0) ⟨#[], args, []⟩).memory :=
  laidMetH_of_parts3 (fuel := 8) (laidMet_of_run' 8 (by kernel_rfl) (by kernel_rfl)) (by kernel_rfl) (by kernel_rfl)

set_option maxRecDepth 100000 in
theorem lifted (os : Os) (started : os.Started) (H : Type) (enc : TypeId × Value → H) :
    ReturnsInHanded {} Tryd.checked os 6 .any (fun w args => (Rows.fnFixCeilSpec.pre enc Tryd.prog Tryd.f6 [] false w args ∧ laidMetH Tryd.prog Rows.fnFixCeilRow.laid w) ∧ sizedMet enc Tryd.prog Tryd.f6 (OpenSpec.ofChange Rows.fnFixCeilSpec) false w args)
      (Rows.fnFixCeilSpec.post enc Tryd.prog Tryd.f6 false true false false) := by
  refine returnsInHanded_of_change_and (C := Tryd.checked) (X := fun w _ => laidMetH Tryd.prog Rows.fnFixCeilRow.laid w) (fun _ _ _ hh h => h.of_heap hh) own started (by kernel_rfl) Tryd.func6
    (ChangeSpec.witness_shaped (enc := enc) (C := Tryd.checked) (os := os) (X := fun w _ => laidMetH Tryd.prog Rows.fnFixCeilRow.laid w) false (World.doorLaid Tryd.prog 166 os) #[.agg #[.bool false, .int .u64 0, .int .i64 0], .int .i64 0] 8 rfl (World.shaped_of_RefB (by kernel_rfl) (by kernel_rfl)) (by kernel_rfl) (by kernel_rfl) (by kernel_rfl) (door_met os _)) ?_
  intro W base args ds gs before hval0 hW _ _ hL _
  have hval : ∀ (j : Nat) t v, Tryd.f6.params[j]? = some t → args[j]? = some v → Value.okWide Tryd.prog W .any base t v := hval0
  have hW' := hW
  obtain ⟨p, q, hA0, hV, rfl, hfz, hnd⟩ := hW
  have hA : DataW.TrodAll enc Tryd.prog W 0 (fun _ => true) true Tryd.f6.params.toList args.toList ds p := hA0
  rw [Tryd.params6] at hA hval
  obtain ⟨v0, vs0, d0, ds0, p0, q0, hargs, rfl, rfl, h0, r0⟩ := trodAll_cons hA
  obtain ⟨v1, vs1, d1, ds1, p1, q1, rfl, rfl, rfl, h1, r1⟩ := trodAll_cons r0
  obtain ⟨rfl, rfl, rfl⟩ := trodAll_nil r1
  obtain rfl : args = #[v0, v1] := by cases args; simp_all
  obtain ⟨neg, n, y, rfl, rfl, rfl, hn, wy⟩ := open_fix (hval 0 32 v0 rfl rfl) h0
  obtain ⟨z, rfl, rfl, rfl, wz⟩ := open_int Tryd.underlying3 (hval 1 3 v1 rfl rfl) h1
  obtain ⟨hE, hP⟩ := laid_both (W := W) (by
    have h := hL
    rw [MakeChecks.laidMetH_plain _ _ _ (by kernel_rfl)] at h
    exact h)
  obtain ⟨g1, g2, g3, hgs⟩ := three_vars hV
  subst hgs
  clear hA0 hval0
  refine (Spec.ceil_law neg n y z W hP hE (bounds_i64 wz).1 (bounds_i64 wz).2).mono fun e W' ⟨he, bel⟩ => ?_
  subst he
  exact ⟨_, rfl, _, _, _, [], _, _, hW', trodAll_mk1 (shut_bool Tryd.underlying4 _), trodAll_cons_mk (shut_fix _ _ _ _ neg n y hn wy) (trodAll_cons_mk (shut_int Tryd.underlying3 wz) trodAll_mk0), Below.trodVars laidOut bel (by kernel_rfl) hV, bel.frame _, fun h => by cases h⟩

theorem said : Rows.FnFixCeilSaid :=
  OpenClaim.holds_of_wide 6 Tryd.f6 rfl rfl rfl rfl rfl rfl rfl ⟨rfl, rfl, rfl, rfl, rfl⟩ rfl rfl rfl rfl rfl (by kernel_rfl) Tryd.func6 (by kernel_rfl)
    (of_decide_eq_true (by kernel_rfl)) (by unfold Func.isWrapper; first | (rw [if_pos (by decide +kernel)]; kernel_rfl) | (rw [if_neg (by decide +kernel)]; exact ⟨rfl, rfl⟩))
    (fun os started H enc _ => lifted os started H enc)

theorem plain (f : FuncId) (fn : Func) (hf : Tryd.pinned.checked.prog.funcNamed "given.example/pub-alexandrine/laws.FnFixCeil" = some f) (hfn : Tryd.pinned.checked.prog.funcs[f]? = some fn) :
    true = Tryd.pinned.checked.prog.looks [] ∧ ∀ (j : Nat) t, fn.params[j]? = some t → Tryd.pinned.checked.prog.wantsStandIn t = false := by
  obtain rfl : f = 6 := Option.some.inj ((show Tryd.prog.funcNamed "given.example/pub-alexandrine/laws.FnFixCeil" = some 6 by kernel_rfl).symm.trans hf) |>.symm
  obtain rfl : fn = Tryd.f6 := (Option.some.inj (Tryd.func6.symm.trans hfn)).symm
  refine ⟨by kernel_rfl, fun j t ht => ?_⟩
  rw [Tryd.params6] at ht
  have hm : t ∈ [32, 3] := by simpa using Array.mem_of_getElem? ht
  have hall : ([32, 3].all fun u => !Tryd.prog.wantsStandIn u) = true := by kernel_rfl
  exact (show Tryd.prog.wantsStandIn t = false by simpa using List.all_eq_true.1 hall t hm)

theorem card : Rows.FnFixCeilCardSaid :=
  Claim7.holds_tied_plain_at .later [] _ _ _ _ said (fun _ h => by cases h) (by kernel_rfl) (fun _ h => by cases h) fnFixCeil_row_tie rfl ⟨rfl, rfl⟩ (by kernel_rfl) rfl plain (by kernel_rfl)
end Go.Proofs.YthkmgjkajllemaaDoor.fnFixCeil
