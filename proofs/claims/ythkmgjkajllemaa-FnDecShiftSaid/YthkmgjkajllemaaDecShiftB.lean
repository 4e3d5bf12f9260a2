/- Lemmas and contracts of functions for the theorem of YthkmgjkajllemaaDecShiftE. -/
import Derived.Test.YthkmgjkajllemaaDecShiftA
import Derived.Test.YthkmgjkajllemaaPNatOfx0
import Derived.Test.YthkmgjkajllemaaPNatMulx1
import Derived.Test.YthkmgjkajllemaaPPow10x1

/- NatOf as a function, and its contract (the print's text, three places mended by hand). -/
namespace Go.Proofs.Ythkmgjkajllemaa.NatOf0
open Go.RowKit Go.Proofs.YthkmgjkajllemaaW.PrintWords Go.Proofs.YthkmgjkajllemaaW.PrintLast Go.Proofs.YthkmgjkajllemaaW.PrintMore Go.Proofs.Ythkmgjkajllemaa.PNatOf
attribute [local go_sem] max2_int min2_int max_two min_two max_three min_three max_four min_four   -- for this text's walks alone
set_option linter.unusedVariables false
set_option linter.unusedSimpArgs false

/-! ### spec_natTrim: function 50 -/
def spec_natTrim.l0 : Nat → List Int → Option (List Int)
  | 0, _ => none
  | k + 1, x0 => if (x0.length : Int) > 0 then (if 0 ≤ (wrap64 ((x0.length : Int) - 1)) then (if (wrap64 ((x0.length : Int) - 1)) < (x0.length : Int) then (if (rd x0 (wrap64 ((x0.length : Int) - 1))) = 0 then (if (wrap64 ((x0.length : Int) - 1)) ≤ (x0.length : Int) then (spec_natTrim.l0 k (x0.take ((wrap64 ((x0.length : Int) - 1)) : Int).toNat)) else (none)) else (some x0)) else (none)) else (none)) else (some x0)
def spec_natTrim.f (k : Nat) (l0 : List Int) : Option (List Int) := spec_natTrim.l0 k l0
theorem spec_natTrim.mono_l : ∀ k, (∀ y0, LeO (spec_natTrim.l0 k y0) (spec_natTrim.l0 (k + 1) y0))
  | 0 => fun _ r h => by simp [spec_natTrim.l0] at h
  | k + 1 => by
    have ih0 := spec_natTrim.mono_l k
    · intro y0
      unfold spec_natTrim.l0
      repeat' first
      | (with_reducible exact ih0 _)
      | (with_reducible exact LeO.refl _)
      | (with_reducible exact LeO.none _)
      | (with_reducible refine LeO.ite ?_ ?_)
      | (with_reducible refine LeO.bind ?_ (fun _ => ?_))
      | exact ih0 _
      | exact LeO.none _
      | refine LeO.ite ?_ ?_
      | refine LeO.bind ?_ (fun _ => ?_)
theorem spec_natTrim.mono : ∀ a0 k, LeO (spec_natTrim.f k a0) (spec_natTrim.f (k + 1) a0) := by
  intro a0 k
  have ih0 := spec_natTrim.mono_l k
  unfold spec_natTrim.f
  repeat' first
      | (with_reducible exact ih0 _)
      | (with_reducible exact LeO.refl _)
      | (with_reducible exact LeO.none _)
      | (with_reducible refine LeO.ite ?_ ?_)
      | (with_reducible refine LeO.bind ?_ (fun _ => ?_))
      | exact ih0 _
      | exact LeO.none _
      | refine LeO.ite ?_ ?_
      | refine LeO.bind ?_ (fun _ => ?_)
set_option maxHeartbeats 8000000 in
set_option maxRecDepth 100000 in
theorem spec_natTrim.calls (k : Nat) (P0_ : Nat → Prop) (A0 : Option Addr) (c0 : Nat) (l0 : List Int) (r : List Int) (w : World) (hs0 : Kd.V (Kd.int .u32) 54 w w.heap.size (fun k_ => P0_ k_) (.slice A0 l0.length c0) l0) (h : spec_natTrim.f k l0 = some r) :
    Calls Try.prog 50 #[.slice A0 l0.length c0] w fun e w' => ∃ v0_ : Value, e = .returned (v0_) ∧ Kd.V (Kd.int .u32) 54 w' w.heap.size (fun k_ => (P0_ k_ ∨ w.heap.size ≤ k_)) v0_ r ∧ Below w.heap.size w w' := by
  have HO0 := Aside0.mk (show Kd.V (Kd.int .u32) 54 w w.heap.size (fun k_ => (P0_ k_ ∨ w.heap.size ≤ k_)) (.slice A0 l0.length c0) l0 from Kd.V_mono hs0 (fun k_ hk => .inl hk))
  have HB := Aside0.mk (Below.refl w.heap.size w)
  have H : (spec_natTrim.l0 k l0) = some r := h
  clear h
  have H' := Aside0.mk H
  clear H
  go_enter Try.func50, Try.ntmps50
  go_wp2
  go_loopg [0] k (fun kq v0 w' => ∃ (x0_1 : List Int), Aside0 (spec_natTrim.l0 kq x0_1 = some r) ∧ Aside0 (kq ≤ k) ∧ Aside0 (Kd.V (Kd.int .u32) 54 w' w.heap.size (fun k_ => (P0_ k_ ∨ w.heap.size ≤ k_)) v0 x0_1) ∧ Aside0 (Below w.heap.size w w'))
  case atStart => exact ⟨(l0), H', ⟨Nat.le_refl _⟩, ⟨by (with_reducible repeat (first | apply Kd.V_alloc | apply Kd.V_drewN | apply Kd.V_drew)); exact HO0.out⟩, ⟨by repeat (first | (with_reducible first | exact HB.out | apply below_alloc | apply pw_below_drewN | apply below_drew1) | exact HB.out)⟩⟩
  case round =>
    clear H'
    obtain ⟨x0_1, HA, HK1, HO_0, HB⟩ := hrel
    cases gk with
    | zero => exact absurd HA.out (by simp [spec_natTrim.l0])
    | succ k1 =>
      have H := HA.out
      clear HA
      simp only [spec_natTrim.l0] at H
      by_cases c2 : (x0_1.length : Int) > 0
      · rw [if_pos c2] at H
        have c2b0 : decide (0 < (x0_1.length : Int)) = true := decide_eq_true c2
        have c2b1 : decide (0 < x0_1.length) = true := decide_eq_true (by omega)
        clear c2
        obtain ⟨ji3, hji3⟩ : ∃ j_ : Int, (wrap64 ((x0_1.length : Int) - 1)) = j_ := ⟨_, rfl⟩
        replace H : (if 0 ≤ (ji3) then (if (ji3) < (x0_1.length : Int) then (if (rd x0_1 (ji3)) = 0 then (if (ji3) ≤ (x0_1.length : Int) then (spec_natTrim.l0 k1 (x0_1.take ((ji3) : Int).toNat)) else (none)) else (some x0_1)) else (none)) else (none)) = some r := by first | (rw [hji3] at H; exact H) | (simp only [hji3] at H ⊢; exact H)
        have hji3w : (IntKind.i64.wrap ((x0_1.length : Int) - 1)) = ji3 := (i64_w _).trans hji3
        by_cases c4 : 0 ≤ (ji3)
        · rw [if_pos c4] at H
          have c4b0 : decide (0 ≤ (ji3)) = true := decide_eq_true c4
          clear c4
          by_cases c5 : (ji3) < (x0_1.length : Int)
          · rw [if_pos c5] at H
            have c5b0 : decide ((ji3) < (x0_1.length : Int)) = true := decide_eq_true c5
            clear c5
            by_cases c6 : (rd x0_1 (ji3)) = 0
            · rw [if_pos c6] at H
              have c6b0 : ((rd x0_1 (ji3)) == 0) = true := beq_iff_eq.mpr c6
              have c6b1 : ((rd x0_1 (ji3)) != 0) = false := bne_eq_false_iff_eq.mpr c6
              clear c6
              have c7b0 := eq_true (of_decide_eq_true (by first | (with_reducible assumption) | assumption) : 0 ≤ (ji3))
              by_cases c8 : (ji3) ≤ (x0_1.length : Int)
              · rw [if_pos c8] at H
                have c8b0 := eq_true c8
                have c8b1 : decide ((ji3) ≤ (x0_1.length : Int)) = true := decide_eq_true c8
                clear c8
                obtain ⟨y102, hy102⟩ : ∃ y_ : List Int, y_ = (x0_1.take ((ji3) : Int).toNat) := ⟨_, rfl⟩
                replace H : (spec_natTrim.l0 k1 y102) = some r := by first | (rw [hy102]; with_reducible exact H) | (have H2_ := (Option.bind_some _ _).symm.trans H; rw [hy102]; with_reducible exact H2_) | (have H2_ := (Option.bind_some _ _).symm.trans H; with_reducible exact H2_) | with_reducible exact H | (rw [hy102]; exact H) | exact H
                have Ny102 := Aside0.mk hy102
                clear hy102
                have H' := Aside0.mk H
                clear H
                obtain ⟨Ao9, co9, eo9⟩ := Kd.V_slice HO_0.out
                subst eo9
                have p101 : 0 ≤ ((ji3) : Int) := of_decide_eq_true (by first | (with_reducible assumption) | assumption)
                have q101 : (ji3) < (x0_1.length : Int) := of_decide_eq_true (by first | (with_reducible assumption) | assumption)
                obtain ⟨ad101, e101, hx101_0⟩ := Kd.at_int (Kd.V_reads' HO_0.out).2.2 (ji3) p101 q101
                cases e101
                replace p101 := eq_true p101
                replace q101 := eq_true q101
                have q10 : ((ji3) : Int) ≤ ((x0_1.length : Int) : Int) := of_decide_eq_true (by first | (with_reducible assumption) | assumption)
                obtain ⟨i010, hi010, _, hsz10, _⟩ := info_parts info54
                have hroom10 : x0_1.length ≤ co9 := (Kd.V_reads' HO_0.out).2.1
                have hC10 : Kd.F (Kd.int .u32) _ _ (some ad101) x0_1.length x0_1 := (Kd.V_at (base := w.heap.size) HO_0.out).2.2
                have hcut10 := cut_to (P := Try.prog) 30 54 .i64 Try.underlying30 hi010 (some ad101) x0_1.length co9 (ji3) (of_decide_eq_true (by first | (with_reducible assumption) | assumption)) q10 hroom10
                have hr10 := Kd.F_take (m := ((ji3) : Int).toNat) hC10 (by omega)
                have hy10 : y102.length = ((ji3) : Int).toNat := (by rw [Ny102.out, List.length_take]; omega)
                rw [← Ny102.out] at hr10
                rw [← hy10] at hcut10
                have HO106 := Aside0.mk (show Kd.V (Kd.int .u32) 54 _ w.heap.size _ (.slice (some ad101) y102.length co9) y102 from Kd.V_mk (by omega) hr10)
                have HC106 := Aside0.mk (show y102.length ≤ co9 from by omega)
                clear hr10 hC10 hroom10 hi010 hsz10
                have KY10 := Aside0.mk hy10
                clear hy10
                replace q10 := eq_true q10
                go_wp2
                go_roundg k1
                case measure => have := HK1.out; omega
                case rel => exact ⟨(y102), H', ⟨by have := HK1.out; omega⟩, ⟨by (with_reducible repeat (first | apply Kd.V_alloc | apply Kd.V_drewN | apply Kd.V_drew)); exact HO106.out⟩, ⟨by repeat (first | (with_reducible first | exact HB.out | apply below_alloc | apply pw_below_drewN | apply below_drew1) | exact HB.out)⟩⟩
              · rw [if_neg c8] at H
                exact absurd H (by simp)
            · rw [if_neg c6] at H
              have c6b0 : ((rd x0_1 (ji3)) == 0) = false := beq_eq_false_iff_ne.mpr c6
              have c6b1 : ((rd x0_1 (ji3)) != 0) = true := bne_iff_ne.mpr c6
              obtain rfl := Option.some.inj H
              obtain ⟨Ao11, co11, eo11⟩ := Kd.V_slice HO_0.out
              subst eo11
              have p101 : 0 ≤ ((ji3) : Int) := of_decide_eq_true (by first | (with_reducible assumption) | assumption)
              have q101 : (ji3) < (x0_1.length : Int) := of_decide_eq_true (by first | (with_reducible assumption) | assumption)
              obtain ⟨ad101, e101, hx101_0⟩ := Kd.at_int (Kd.V_reads' HO_0.out).2.2 (ji3) p101 q101
              cases e101
              replace p101 := eq_true p101
              replace q101 := eq_true q101
              go_wp2
              go_ret
              exact ⟨_, by first | rfl | (simp [errW_none, errW_some] <;> rfl) | (simp only [← hji3]; first | rfl | (simp [errW_none, errW_some] <;> rfl)) | (simp [*, errW_none, errW_some] <;> rfl), by (with_reducible repeat (first | apply Kd.V_alloc | apply Kd.V_drewN | apply Kd.V_drew)); exact HO_0.out, by repeat (first | (with_reducible first | exact HB.out | apply below_alloc | apply pw_below_drewN | apply below_drew1) | exact HB.out)⟩
          · rw [if_neg c5] at H
            exact absurd H (by simp)
        · rw [if_neg c4] at H
          exact absurd H (by simp)
      · rw [if_neg c2] at H
        have c2b0 : decide (0 < (x0_1.length : Int)) = false := decide_eq_false c2
        have c2b1 : decide (0 < x0_1.length) = false := decide_eq_false (by omega)
        clear c2
        obtain rfl := Option.some.inj H
        obtain ⟨Ao12, co12, eo12⟩ := Kd.V_slice HO_0.out
        subst eo12
        go_wp2
        go_ret
        exact ⟨_, by first | rfl | (simp [errW_none, errW_some] <;> rfl) | (simp [*, errW_none, errW_some] <;> rfl), by (with_reducible repeat (first | apply Kd.V_alloc | apply Kd.V_drewN | apply Kd.V_drew)); exact HO_0.out, by repeat (first | (with_reducible first | exact HB.out | apply below_alloc | apply pw_below_drewN | apply below_drew1) | exact HB.out)⟩

/-! ### spec_NatOf: function 53 -/
mutual
def spec_NatOf.l0 : Nat → ByteArray → List Int → Int → Option (List Int × Bool)
  | 0, _, _, _ => none
  | k + 1, x0, x4, x5 => if x5 > 0 then (spec_NatOf.l1 k x0 x4 x5 0 (mx 0 (wrap64 (x5 - 9)))) else ((spec_natTrim.f k x4).bind fun t107 => (some (t107, (x0.toList != ([] : List UInt8)))))
def spec_NatOf.l1 : Nat → ByteArray → List Int → Int → Int → Int → Option (List Int × Bool)
  | 0, _, _, _, _, _ => none
  | k + 1, x0, x4, x5, x6, x7 => if x7 < x5 then (if 0 ≤ x7 then (if x7 < (x0.size : Int) then (if (bt x0 x7) < 48 then (some (([] : List Int), false)) else (if (bt x0 x7) > 57 then (some (([] : List Int), false)) else (spec_NatOf.l1 k x0 x4 x5 ((((x6 * 10) % 4294967296) + (((bt x0 x7) - 48) % 256)) % 4294967296) (wrap64 (x7 + 1))))) else (none)) else (none)) else (if x4.length < 35184372088832 then (spec_NatOf.l0 k x0 (x4 ++ [x6]) (wrap64 (x5 - 9))) else (none))
end
def spec_NatOf.f (k : Nat) (a0 : ByteArray) : Option (List Int × Bool) := spec_NatOf.l0 k a0 ([] : List Int) (a0.size : Int)
theorem spec_NatOf.mono_l : ∀ k, (∀ y0 y1 y2, LeO (spec_NatOf.l0 k y0 y1 y2) (spec_NatOf.l0 (k + 1) y0 y1 y2)) ∧ (∀ y0 y1 y2 y3 y4, LeO (spec_NatOf.l1 k y0 y1 y2 y3 y4) (spec_NatOf.l1 (k + 1) y0 y1 y2 y3 y4))
  | 0 => ⟨fun _ _ _ r h => by simp [spec_NatOf.l0] at h, fun _ _ _ _ _ r h => by simp [spec_NatOf.l1] at h⟩
  | k + 1 => by
    obtain ⟨ih0, ih1⟩ := spec_NatOf.mono_l k
    refine ⟨?_, ?_⟩
    · intro y0 y1 y2
      unfold spec_NatOf.l0
      repeat' first
      | (with_reducible exact ih0 _ _ _)
      | (with_reducible exact ih1 _ _ _ _ _)
      | (with_reducible exact spec_natTrim.mono _ _)
      | (with_reducible exact LeO.refl _)
      | (with_reducible exact LeO.none _)
      | (with_reducible refine LeO.ite ?_ ?_)
      | (with_reducible refine LeO.bind ?_ (fun _ => ?_))
      | exact ih0 _ _ _
      | exact ih1 _ _ _ _ _
      | exact spec_natTrim.mono _ _
      | exact LeO.none _
      | refine LeO.ite ?_ ?_
      | refine LeO.bind ?_ (fun _ => ?_)
    · intro y0 y1 y2 y3 y4
      unfold spec_NatOf.l1
      repeat' first
      | (with_reducible exact ih0 _ _ _)
      | (with_reducible exact ih1 _ _ _ _ _)
      | (with_reducible exact spec_natTrim.mono _ _)
      | (with_reducible exact LeO.refl _)
      | (with_reducible exact LeO.none _)
      | (with_reducible refine LeO.ite ?_ ?_)
      | (with_reducible refine LeO.bind ?_ (fun _ => ?_))
      | exact ih0 _ _ _
      | exact ih1 _ _ _ _ _
      | exact spec_natTrim.mono _ _
      | exact LeO.none _
      | refine LeO.ite ?_ ?_
      | refine LeO.bind ?_ (fun _ => ?_)
theorem spec_NatOf.mono : ∀ a0 k, LeO (spec_NatOf.f k a0) (spec_NatOf.f (k + 1) a0) := by
  intro a0 k
  obtain ⟨ih0, ih1⟩ := spec_NatOf.mono_l k
  unfold spec_NatOf.f
  repeat' first
      | (with_reducible exact ih0 _ _ _)
      | (with_reducible exact ih1 _ _ _ _ _)
      | (with_reducible exact spec_natTrim.mono _ _)
      | (with_reducible exact LeO.refl _)
      | (with_reducible exact LeO.none _)
      | (with_reducible refine LeO.ite ?_ ?_)
      | (with_reducible refine LeO.bind ?_ (fun _ => ?_))
      | exact ih0 _ _ _
      | exact ih1 _ _ _ _ _
      | exact spec_natTrim.mono _ _
      | exact LeO.none _
      | refine LeO.ite ?_ ?_
      | refine LeO.bind ?_ (fun _ => ?_)
set_option maxHeartbeats 8000000 in
set_option maxRecDepth 100000 in
theorem spec_NatOf.calls (k : Nat) (a0 : ByteArray) (r1 : List Int) (r2 : Bool) (w : World) (h : spec_NatOf.f k a0 = some (r1, r2)) :
    Calls Try.prog 53 #[.string a0] w fun e w' => ∃ v0_ : Value, e = .returned (.tuple #[v0_, .bool r2]) ∧ Kd.V (Kd.int .u32) 54 w' w.heap.size (fun k_ => (w.heap.size ≤ k_)) v0_ r1 ∧ Below w.heap.size w w' := by
  have HB := Aside0.mk (Below.refl w.heap.size w)
  have H : (spec_NatOf.l0 k a0 ([] : List Int) (a0.size : Int)) = some (r1, r2) := h
  clear h
  have H' := Aside0.mk H
  clear H
  go_enter Try.func53, Try.ntmps53
  go_wp2
  go_loopg [4, 5] k (fun kq v4 v5 w' => ∃ (x4_1 : List Int) (x5_1 : Int), v5 = .int .i64 x5_1 ∧ Aside0 (spec_NatOf.l0 kq a0 x4_1 x5_1 = some (r1, r2)) ∧ Aside0 (kq ≤ k) ∧ Aside0 (Kd.R (Kd.int .u32) 54 w' w.heap.size (fun k_ => (w.heap.size ≤ k_)) v4 x4_1) ∧ Aside0 (Below w.heap.size w w'))
  case atStart => exact ⟨(([] : List Int)), ((a0.size : Int)), (by first | rfl | (simp; done) | (simp [*]; done)), H', ⟨Nat.le_refl _⟩, ⟨by first | exact Kd.R_nil _ _ _ _ _ | exact Kd.N_nil _ _ _ _ _ | exact Kd.V_nil _ _ _ _ _ | exact Kd.Q_nil _ _ _ _ _ | exact Kd.S_nil _ _ _ _ _⟩, ⟨by repeat (first | (with_reducible first | exact HB.out | apply below_alloc | apply pw_below_drewN | apply below_drew1) | exact HB.out)⟩⟩
  case round =>
    clear H'
    obtain ⟨x4_1, x5_1, rfl, HA, HK1, HO_4, HB⟩ := hrel
    cases gk with
    | zero => exact absurd HA.out (by simp [spec_NatOf.l0])
    | succ k1 =>
      have H := HA.out
      clear HA
      simp only [spec_NatOf.l0] at H
      by_cases c2 : x5_1 > 0
      · rw [if_pos c2] at H
        have c2b0 : decide (0 < x5_1) = true := decide_eq_true c2
        clear c2
        obtain ⟨ji3, hji3⟩ : ∃ j_ : Int, (mx 0 (wrap64 (x5_1 - 9))) = j_ := ⟨_, rfl⟩
        replace H : (spec_NatOf.l1 k1 a0 x4_1 x5_1 0 ji3) = some (r1, r2) := by first | (rw [hji3] at H; exact H) | (simp only [hji3] at H ⊢; exact H)
        have hji3_ : (if 0 < (wrap64 (x5_1 - 9)) then (wrap64 (x5_1 - 9)) else 0) = ji3 := hji3
        have H' := Aside0.mk H
        clear H
        go_wp2
        go_loopg [6, 7] k1 (fun kq v6 v7 w' => ∃ (x6_2 : Int) (x7_2 : Int), v6 = .int .u32 x6_2 ∧ v7 = .int .i64 x7_2 ∧ Aside0 (spec_NatOf.l1 kq a0 x4_1 x5_1 x6_2 x7_2 = some (r1, r2)) ∧ Aside0 (kq ≤ k1) ∧ Aside0 (Kd.R (Kd.int .u32) 54 w' w.heap.size (fun k_ => (w.heap.size ≤ k_)) u4 x4_1) ∧ Aside0 (Below w.heap.size w w'))
        case atStart => exact ⟨(0), (ji3), (by first | rfl | (simp; done) | (simp [*]; done)), (by first | rfl | (simp; done) | (simp only [← hji3] <;> (first | rfl | simp)) | (simp [*]; done)), H', ⟨Nat.le_refl _⟩, ⟨by (with_reducible repeat (first | apply Kd.R_alloc | apply Kd.R_drewN | apply Kd.R_drew)); exact HO_4.out⟩, ⟨by repeat (first | (with_reducible first | exact HB.out | apply below_alloc | apply pw_below_drewN | apply below_drew1) | exact HB.out)⟩⟩
        case round =>
          clear H'
          try clear c2
          try clear c2b0
          try clear p2
          obtain ⟨x6_2, x7_2, rfl, rfl, HA, HK2, HO_4, HB⟩ := hrel
          cases gk with
          | zero => exact absurd HA.out (by simp [spec_NatOf.l1])
          | succ k2 =>
            have H := HA.out
            clear HA
            simp only [spec_NatOf.l1] at H
            by_cases c4 : x7_2 < x5_1
            · rw [if_pos c4] at H
              have c4b0 : decide (x7_2 < x5_1) = true := decide_eq_true c4
              clear c4
              by_cases c5 : 0 ≤ x7_2
              · rw [if_pos c5] at H
                have c5b0 : decide (0 ≤ x7_2) = true := decide_eq_true c5
                clear c5
                by_cases c6 : x7_2 < (a0.size : Int)
                · rw [if_pos c6] at H
                  have c6b0 : decide (x7_2 < (a0.size : Int)) = true := decide_eq_true c6
                  clear c6
                  by_cases c8 : (bt a0 x7_2) < 48
                  · rw [if_pos c8] at H
                    have c8b0 : decide ((bt a0 x7_2) < 48) = true := decide_eq_true c8
                    clear c8
                    simp only [Option.some.injEq, Prod.mk.injEq] at H
                    obtain ⟨rfl, rfl⟩ := H
                    have p7 : 0 ≤ (x7_2 : Int) := of_decide_eq_true (by first | (with_reducible assumption) | assumption)
                    have q7 : x7_2 < (a0.size : Int) := of_decide_eq_true (by first | (with_reducible assumption) | assumption)
                    have hx7 := bt_at a0 x7_2
                    replace p7 := eq_true p7
                    replace q7 := eq_true q7
                    go_wp2
                    go_ret2
                    exact ⟨.slice none 0 0, by first | rfl | (simp [errW_none, errW_some] <;> rfl) | (simp only [← hji3]; first | rfl | (simp [errW_none, errW_some] <;> rfl)) | (simp [*, errW_none, errW_some] <;> rfl), Kd.V_nil _ _ _ _ _, by repeat (first | (with_reducible first | exact HB.out | apply below_alloc | apply pw_below_drewN | apply below_drew1) | exact HB.out)⟩
                  · rw [if_neg c8] at H
                    have c8b0 : decide ((bt a0 x7_2) < 48) = false := decide_eq_false c8
                    clear c8
                    by_cases c10 : (bt a0 x7_2) > 57
                    · rw [if_pos c10] at H
                      have c10b0 : decide (57 < (bt a0 x7_2)) = true := decide_eq_true c10
                      clear c10
                      simp only [Option.some.injEq, Prod.mk.injEq] at H
                      obtain ⟨rfl, rfl⟩ := H
                      have p7 : 0 ≤ (x7_2 : Int) := of_decide_eq_true (by first | (with_reducible assumption) | assumption)
                      have q7 : x7_2 < (a0.size : Int) := of_decide_eq_true (by first | (with_reducible assumption) | assumption)
                      have hx7 := bt_at a0 x7_2
                      replace p7 := eq_true p7
                      replace q7 := eq_true q7
                      have p9 : 0 ≤ (x7_2 : Int) := of_decide_eq_true (by first | (with_reducible assumption) | assumption)
                      have q9 : x7_2 < (a0.size : Int) := of_decide_eq_true (by first | (with_reducible assumption) | assumption)
                      have hx9 := bt_at a0 x7_2
                      replace p9 := eq_true p9
                      replace q9 := eq_true q9
                      go_wp2
                      go_ret2
                      exact ⟨.slice none 0 0, by first | rfl | (simp [errW_none, errW_some] <;> rfl) | (simp only [← hji3]; first | rfl | (simp [errW_none, errW_some] <;> rfl)) | (simp [*, errW_none, errW_some] <;> rfl), Kd.V_nil _ _ _ _ _, by repeat (first | (with_reducible first | exact HB.out | apply below_alloc | apply pw_below_drewN | apply below_drew1) | exact HB.out)⟩
                    · rw [if_neg c10] at H
                      have c10b0 : decide (57 < (bt a0 x7_2)) = false := decide_eq_false c10
                      clear c10
                      have H' := Aside0.mk H
                      clear H
                      have p7 : 0 ≤ (x7_2 : Int) := of_decide_eq_true (by first | (with_reducible assumption) | assumption)
                      have q7 : x7_2 < (a0.size : Int) := of_decide_eq_true (by first | (with_reducible assumption) | assumption)
                      have hx7 := bt_at a0 x7_2
                      replace p7 := eq_true p7
                      replace q7 := eq_true q7
                      have p9 : 0 ≤ (x7_2 : Int) := of_decide_eq_true (by first | (with_reducible assumption) | assumption)
                      have q9 : x7_2 < (a0.size : Int) := of_decide_eq_true (by first | (with_reducible assumption) | assumption)
                      have hx9 := bt_at a0 x7_2
                      replace p9 := eq_true p9
                      replace q9 := eq_true q9
                      have p11 : 0 ≤ (x7_2 : Int) := of_decide_eq_true (by first | (with_reducible assumption) | assumption)
                      have q11 : x7_2 < (a0.size : Int) := of_decide_eq_true (by first | (with_reducible assumption) | assumption)
                      have hx11 := bt_at a0 x7_2
                      replace p11 := eq_true p11
                      replace q11 := eq_true q11
                      go_wp2
                      go_roundg k2
                      case measure => have := HK1.out; have := HK2.out; omega
                      case rel => exact ⟨((((x6_2 * 10) % 4294967296) + (((bt a0 x7_2) - 48) % 256)) % 4294967296), (wrap64 (x7_2 + 1)), (by first | rfl | (simp; done) | (simp [*]; done)), (by first | rfl | (simp; done) | (simp [*]; done)), H', ⟨by have := HK1.out; have := HK2.out; omega⟩, ⟨by (with_reducible repeat (first | apply Kd.R_alloc | apply Kd.R_drewN | apply Kd.R_drew)); exact HO_4.out⟩, ⟨by repeat (first | (with_reducible first | exact HB.out | apply below_alloc | apply pw_below_drewN | apply below_drew1) | exact HB.out)⟩⟩
                · rw [if_neg c6] at H
                  exact absurd H (by simp)
              · rw [if_neg c5] at H
                exact absurd H (by simp)
            · rw [if_neg c4] at H
              have c4b0 : decide (x7_2 < x5_1) = false := decide_eq_false c4
              clear c4
              by_cases c12 : x4_1.length < 35184372088832
              · rw [if_pos c12] at H
                have LMc12 := Aside0.mk c12
                clear c12
                obtain ⟨y110, hy110⟩ : ∃ y_ : List Int, y_ = (x4_1 ++ [x6_2]) := ⟨_, rfl⟩
                replace H : (spec_NatOf.l0 k2 a0 y110 (wrap64 (x5_1 - 9))) = some (r1, r2) := by first | (rw [hy110]; with_reducible exact H) | (have H2_ := (Option.bind_some _ _).symm.trans H; rw [hy110]; with_reducible exact H2_) | (have H2_ := (Option.bind_some _ _).symm.trans H; with_reducible exact H2_) | with_reducible exact H | (rw [hy110]; exact H) | exact H
                have Ny110 := Aside0.mk hy110
                clear hy110
                have H' := Aside0.mk H
                clear H
                go_wp2_with (first | ((with_reducible refine gate_builtin (b := .append) (xs := #[.tmp 40, .tmp 42]) rfl ?_); at_builtin; refine Kd.R_append (Kd.int .u32) (w0 := w) w.heap.size rfl (.tmp 40) (.tmp 42) 30 54 (.int .u32 0) 4 rfl Try.underlying30 info54 rfl (by decide) (by omega) u4 x4_1 x6_2 [.int .u32 x6_2] (fun k_ => (w.heap.size ≤ k_)) (fun _ => False) rfl rfl ?aP (fun _ hk => hk.elim) ?aF ?aO ?aB ?aS ?aL ?_; (case aP => exact rfl); (case aB => exact (by repeat (first | (with_reducible first | exact HB.out | apply below_alloc | apply pw_below_drewN | apply below_drew1) | exact HB.out))); (case aF => exact (fun k_ hk => (Nat.le_trans (below_size (by repeat (first | (with_reducible first | exact HB.out | apply below_alloc | apply pw_below_drewN | apply below_drew1) | exact HB.out))) hk))); (case aO => exact (by (with_reducible repeat (first | apply Kd.R_alloc | apply Kd.R_drewN | apply Kd.R_drew)); exact HO_4.out)); (case aS => exact (below_size (by repeat (first | (with_reducible first | exact HB.out | apply below_alloc | apply pw_below_drewN | apply below_drew1) | exact HB.out)))); (case aL => have := LMc12.out; omega); intro v111 w13 ho hb hg hat; rw [← Ny110.out] at ho; have n0_ := Aside0.mk (hb); have n1_ := Aside0.mk (ho); clear HB; clear HO_4; have HB := n0_; have HO112 := n1_; clear n0_ n1_; clear ho hb hg hat))
                go_roundg k2
                case measure => have := HK1.out; have := HK2.out; omega
                case rel => exact ⟨(y110), (wrap64 (x5_1 - 9)), (by first | rfl | (simp; done) | (simp [*]; done)), H', ⟨by have := HK1.out; have := HK2.out; omega⟩, ⟨by (with_reducible repeat (first | apply Kd.R_alloc | apply Kd.R_drewN | apply Kd.R_drew)); exact HO112.out⟩, ⟨by repeat (first | (with_reducible first | exact HB.out | apply below_alloc | apply pw_below_drewN | apply below_drew1) | exact HB.out)⟩⟩
              · rw [if_neg c12] at H
                exact absurd H (by simp)
      · rw [if_neg c2] at H
        have c2b0 : decide (0 < x5_1) = false := decide_eq_false c2
        clear c2
        replace H := Option.bind_eq_some_iff.mp H
        obtain ⟨t107, A140, H⟩ := H
        replace H : (some (t107, (a0.toList != ([] : List UInt8)))) = some (r1, r2) := H
        have A14 := Aside0.mk A140
        clear A140
        simp only [Option.some.injEq, Prod.mk.injEq] at H
        obtain ⟨rfl, rfl⟩ := H
        obtain ⟨Ao15, co15, eo15⟩ := Kd.R_slice HO_4.out
        subst eo15
        go_wp2_with (first | ((with_reducible refine gate_callee (f := 50) rfl ?_); refine goesL_ (some 45) rfl rfl Try.func50 (by kernel_rfl) rfl #[.slice Ao15 x4_1.length co15] rfl (by (try simp only [List.map_toArray, List.map_cons, List.map_nil]); first | done | rfl | (simp only [List.length_drop, List.length_take]; rfl)) ?_; (with_reducible refine (spec_natTrim.calls k1 (fun k_ => some k_ = (.slice Ao15 x4_1.length co15 : Value).ownBlock) _ _ x4_1 t107 _ ?side1 A14.out).mono ?_); (case side1 => exact Kd.R_V (Kd.R_tight rfl (HO_4.out))); rintro e w16 ⟨v108, rfl, ho0, hb⟩; refine ⟨_, rfl, ?_⟩; have n0_ := Aside0.mk (Kd.R_below (by (with_reducible repeat (first | apply Kd.R_alloc | apply Kd.R_drewN | apply Kd.R_drew)); exact HO_4.out) hb); have n1_ := Aside0.mk (Kd.V_lower (Kd.V_mono (ok' := fun k_ => (w.heap.size ≤ k_)) ho0 (fun k_ hk_ => Or.elim hk_ (fun hs_ => ((HO_4.out).1 k_ hs_.symm)) (fun hn_ => (Nat.le_trans (below_size (by repeat (first | (with_reducible first | exact HB.out | apply below_alloc | apply pw_below_drewN | apply below_drew1) | exact HB.out))) hn_)))) (below_size (by repeat (first | (with_reducible first | exact HB.out | apply below_alloc | apply pw_below_drewN | apply below_drew1) | exact HB.out)))); have n2_ := Aside0.mk (below_step (by repeat (first | (with_reducible first | exact HB.out | apply below_alloc | apply pw_below_drewN | apply below_drew1) | exact HB.out)) hb); clear HO_4; clear HB; have HO_4 := n0_; have HO109 := n1_; have HB := n2_; clear n0_ n1_ n2_; (try clear hb); (try clear hb2); (try clear hk); (try clear hi); (try clear ho0)))
        go_ret2
        have hne_ : (a0.toList != ([] : List UInt8)) = !a0.toList.isEmpty := by cases a0.toList <;> rfl
        rw [hne_]
        exact ⟨_, by first | rfl | (simp [errW_none, errW_some] <;> rfl) | (simp [*, errW_none, errW_some] <;> rfl), by (with_reducible repeat (first | apply Kd.V_alloc | apply Kd.V_drewN | apply Kd.V_drew)); exact HO109.out, by repeat (first | (with_reducible first | exact HB.out | apply below_alloc | apply pw_below_drewN | apply below_drew1) | exact HB.out)⟩

end Go.Proofs.Ythkmgjkajllemaa.NatOf0

/- What the reference's functions on natural numbers compute: product, power of ten, comparison, division by one limb; plain facts on the printed functions. -/
namespace Go.Proofs.Ythkmgjkajllemaa.Arith
open Go.RowKit Go.Proofs.YthkmgjkajllemaaW.PrintWords Go.Proofs.Ythkmgjkajllemaa.Num Go.Proofs.Ythkmgjkajllemaa.Val
set_option linter.unusedVariables false
set_option linter.unusedSimpArgs false

theorem w64 (n : Nat) (h : n < 9223372036854775808) : wrap64 (n : Int) = n := by unfold wrap64; omega
theorem w64' (x : Int) (h : -9223372036854775808 ≤ x) (h2 : x < 9223372036854775808) : wrap64 x = x := by unfold wrap64; omega
theorem rd_nat (l : List Int) (n : Nat) : rd l (n : Int) = l.getD n 0 := by unfold rd; rw [Int.toNat_natCast]

theorem last_of (l : List Int) (n : Nat) (h : l.length = n + 1) (hne : l ≠ []) : l.getLast hne = l.getD n 0 := by
  rw [List.getLast_eq_getElem, List.getD_eq_getElem?_getD, List.getElem?_eq_getElem (by omega)]
  simp [h]
theorem split_last (l : List Int) (n : Nat) (h : l.length = n + 1) (h0 : l.getD n 0 = 0) : l = l.take n ++ [0] := by
  have h1 := List.take_append_drop n l
  rw [List.drop_eq_getElem_cons (by omega : n < l.length), List.drop_eq_nil_of_le (by omega : l.length ≤ n + 1)] at h1
  rw [List.getD_eq_getElem?_getD, List.getElem?_eq_getElem (by omega : n < l.length), Option.getD_some] at h0
  rw [h0] at h1
  exact h1.symm

theorem natTrim_go : ∀ (n : Nat) (l : List Int) (k : Nat), l.length = n → Digs l → n < k → n < 4611686018427387904 → PNatMul.spec_natTrim.l0 k l = some (trim l) := by
  intro n
  induction n with
  | zero =>
    intro l k hl hd hk hb
    obtain ⟨k, rfl⟩ : ∃ m, k = m + 1 := ⟨k - 1, by omega⟩
    have : l = [] := List.length_eq_zero_iff.1 hl
    subst this
    simp [PNatMul.spec_natTrim.l0, trim, val, limbs_zero]
  | succ n ih =>
    intro l k hl hd hk hb
    obtain ⟨k, rfl⟩ : ∃ m, k = m + 1 := ⟨k - 1, by omega⟩
    have hne : l ≠ [] := by intro h; rw [h] at hl; simp at hl
    have e : wrap64 ((l.length : Int) - 1) = n := by rw [hl, w64' _ (by omega) (by omega)]; omega
    rw [PNatMul.spec_natTrim.l0, e, if_pos (by omega), if_pos (by omega), if_pos (by omega), rd_nat]
    by_cases h0 : l.getD n 0 = 0
    · rw [if_pos h0, if_pos (by omega), Int.toNat_natCast, ih (l.take n) k (by rw [List.length_take]; omega) (hd.take n) (by omega) (by omega)]
      conv => rhs; rw [split_last l n hl h0, trim_append_zero]
    · rw [if_neg h0]
      refine congrArg some ?_
      unfold trim
      exact (limbs_val hd (fun h => by rw [last_of l n hl h]; exact h0)).symm
theorem natTrim_go' : ∀ (n : Nat) (l : List Int) (k : Nat), l.length = n → Digs l → n < k → n < 4611686018427387904 → NatOf0.spec_natTrim.l0 k l = some (trim l) := by
  intro n
  induction n with
  | zero =>
    intro l k hl hd hk hb
    obtain ⟨k, rfl⟩ : ∃ m, k = m + 1 := ⟨k - 1, by omega⟩
    have : l = [] := List.length_eq_zero_iff.1 hl
    subst this
    simp [NatOf0.spec_natTrim.l0, trim, val, limbs_zero]
  | succ n ih =>
    intro l k hl hd hk hb
    obtain ⟨k, rfl⟩ : ∃ m, k = m + 1 := ⟨k - 1, by omega⟩
    have hne : l ≠ [] := by intro h; rw [h] at hl; simp at hl
    have e : wrap64 ((l.length : Int) - 1) = n := by rw [hl, w64' _ (by omega) (by omega)]; omega
    rw [NatOf0.spec_natTrim.l0, e, if_pos (by omega), if_pos (by omega), if_pos (by omega), rd_nat]
    by_cases h0 : l.getD n 0 = 0
    · rw [if_pos h0, if_pos (by omega), Int.toNat_natCast, ih (l.take n) k (by rw [List.length_take]; omega) (hd.take n) (by omega) (by omega)]
      conv => rhs; rw [split_last l n hl h0, trim_append_zero]
    · rw [if_neg h0]
      refine congrArg some ?_
      unfold trim
      exact (limbs_val hd (fun h => by rw [last_of l n hl h]; exact h0)).symm

/-- How far the product has come: the first i limbs of a are multiplied. -/
structure Mul (a b out : List Int) (i : Nat) : Prop where
  len : out.length = a.length + b.length
  digs : Digs out
  worth : val out = val (a.take i) * val b
  zero : ∀ k, i + b.length ≤ k → out.getD k 0 = 0
/-- Within limb i: j limbs of b are multiplied, the carry is c. -/
structure MulIn (a b out : List Int) (i j : Nat) (x c : Int) : Prop where
  len : out.length = a.length + b.length
  digs : Digs out
  c0 : 0 ≤ c
  c1 : c < (1000000000 : Int)
  worth : val out + c * (1000000000 : Int) ^ (i + j) = val (a.take i) * val b + (1000000000 : Int) ^ i * x * val (b.take j)
  zero : ∀ k, i + b.length ≤ k → out.getD k 0 = 0
theorem MulIn.step {a b out : List Int} {i j : Nat} {x c y t : Int} (h : MulIn a b out i j x c) (hi : i < a.length) (hj : j < b.length) (hb : Digs b) (x0 : 0 ≤ x) (x1 : x < (1000000000 : Int)) (hy : b.getD j 0 = y)
    (ht : t = c + (out.getD (i + j) 0 + x * y)) : MulIn a b (out.set (i + j) (t % 1000000000)) i (j + 1) x (t / 1000000000) := by
  have hyb := hb j
  rw [hy] at hyb
  have ho := h.digs (i + j)
  obtain ⟨m1, m2, m3, m4⟩ := mul_room x0 x1 hyb.1 hyb.2 ho.1 ho.2 h.c0 h.c1
  rw [← ht] at m3 m4
  have hlen := h.len
  refine ⟨by simp [hlen], h.digs.set _ (by omega) (by show _ < (1000000000 : Int); omega), by omega, by show _ < (1000000000 : Int); omega, ?_, fun k hk => ?_⟩
  · rw [val_set _ _ _ (by omega), val_take_succ b j hj, hy]
    have hw := h.worth
    have e : t % 1000000000 = t - (1000000000 : Int) * (t / 1000000000) := by omega
    rw [e]
    generalize t / 1000000000 = q at *
    have e2 : (1000000000 : Int) ^ (i + (j + 1)) = (1000000000 : Int) ^ (i + j) * 1000000000 := Int.pow_succ _ _
    have e3 : (1000000000 : Int) ^ (i + j) = (1000000000 : Int) ^ i * (1000000000 : Int) ^ j := Int.pow_add _ _ _
    rw [e2]
    rw [e3] at hw ⊢
    generalize (1000000000 : Int) ^ i = P at *
    generalize (1000000000 : Int) ^ j = Q at *
    grind
  · rw [getD_set _ _ _ _ (by omega), if_neg (by omega)]
    exact h.zero k hk
theorem MulIn.done {a b out : List Int} {i : Nat} {x c : Int} (h : MulIn a b out i b.length x c) (hi : i < a.length) (hx : a.getD i 0 = x) : Mul a b (out.set (i + b.length) c) (i + 1) := by
  have hlen := h.len
  refine ⟨by simp [hlen], h.digs.set _ h.c0 h.c1, ?_, fun k hk => ?_⟩
  · rw [val_set _ _ _ (by omega), h.zero _ (Nat.le_refl _), val_take_succ a i hi, hx]
    have hw := h.worth
    rw [List.take_length] at hw
    generalize (1000000000 : Int) ^ (i + b.length) = P at *
    generalize (1000000000 : Int) ^ i = Q at *
    grind
  · rw [getD_set _ _ _ _ (by omega), if_neg (by omega)]
    exact h.zero k (by omega)
theorem Mul.enter {a b out : List Int} {i : Nat} (h : Mul a b out i) (x : Int) : MulIn a b out i 0 x 0 :=
  ⟨h.len, h.digs, Int.le_refl _, by show (0 : Int) < 1000000000; omega, by rw [h.worth]; simp [val], h.zero⟩

theorem mul_l1 (k : Nat) (x1 x5 : List Int) (x6 x7 x8 : Int) (x17 : List Int) (x18 x19 : Int) (x24 : List Int) (x25 x26 : Int) (y o t : Int) (p : Nat)
    (h1 : x26 < x25) (h2 : 0 ≤ x26) (h3 : x26 < (x24.length : Int)) (h4 : wrap64 (x6 + x26) = (p : Int)) (h5 : (p : Int) < (x5.length : Int)) (hy : rd x24 x26 = y) (ho : rd x5 (p : Int) = o)
    (ht : IntKind.u64.wrap (x8 + (IntKind.u64.wrap ((IntKind.u64.wrap o) + (IntKind.u64.wrap ((IntKind.u64.wrap (x7)) * (IntKind.u64.wrap y)))))) = t) :
    PNatMul.spec_NatMul.l1 (k + 1) x1 x5 x6 x7 x8 x17 x18 x19 x24 x25 x26 = PNatMul.spec_NatMul.l1 k x1 (x5.set p ((Int.tmod t 1000000000) % 4294967296)) x6 x7 (IntKind.u64.wrap (Int.tdiv t 1000000000)) x17 x18 x19 x24 x25 (wrap64 (x26 + 1)) := by
  rw [PNatMul.spec_NatMul.l1]
  simp only [h1, h2, h3, h4, h5, hy, ho, ht, if_true, Int.toNat_natCast, show (0 : Int) ≤ (p : Int) from by omega]
theorem natMul_in (a b : List Int) (ha : Digs a) (hb : Digs b) (hla : a.length < 1000000) (hlb : b.length < 1000000) (i : Nat) (hi : i < a.length) (x : Int) (hx : a.getD i 0 = x) (k : Nat) :
    ∀ (d j : Nat) (out : List Int) (c : Int), j + d = b.length → MulIn a b out i j x c →
      ∃ out', Mul a b out' (i + 1) ∧ PNatMul.spec_NatMul.l1 (k + d + 1) b out i x c a a.length i b b.length j = PNatMul.spec_NatMul.l0 k b out' a a.length ((i + 1 : Nat) : Int) := by
  have hxb := ha i
  rw [hx] at hxb
  intro d
  induction d with
  | zero =>
    intro j out c hj h
    obtain rfl : j = b.length := by omega
    have hlen := h.len
    have e1 : wrap64 ((i : Int) + (b.length : Int)) = ((i + b.length : Nat) : Int) := by rw [w64' _ (by omega) (by omega)]; omega
    have e2 : wrap64 ((i : Int) + 1) = ((i + 1 : Nat) : Int) := by rw [w64' _ (by omega) (by omega)]; omega
    have e3 : c % 4294967296 = c := by have := h.c0; have h1 : c < 1000000000 := h.c1; omega
    refine ⟨_, h.done hi hx, ?_⟩
    rw [PNatMul.spec_NatMul.l1, if_neg (by omega), e1, e2, e3, if_pos (by omega), if_pos (by omega), Int.toNat_natCast]
  | succ d ih =>
    intro j out c hj h
    have hlen := h.len
    obtain ⟨y, hy⟩ : ∃ y, b.getD j 0 = y := ⟨_, rfl⟩
    have hyb := hb j
    have ho := h.digs (i + j)
    rw [hy] at hyb
    obtain ⟨o, hod⟩ : ∃ o, out.getD (i + j) 0 = o := ⟨_, rfl⟩
    rw [hod] at ho
    obtain ⟨m1, m2, m3, m4⟩ := mul_room hxb.1 hxb.2 hyb.1 hyb.2 ho.1 ho.2 h.c0 h.c1
    obtain ⟨t, ht⟩ : ∃ t, c + (o + x * y) = t := ⟨_, rfl⟩
    have hs := h.step hi (by omega) hb hxb.1 hxb.2 hy (t := t) (by rw [hod]; exact ht.symm)
    obtain ⟨out', hm, he⟩ := ih (j + 1) _ _ (by omega) hs
    refine ⟨out', hm, ?_⟩
    have k1 : (j : Int) < (b.length : Int) := by omega
    have k2 : ((i + j : Nat) : Int) < (out.length : Int) := by omega
    have k3 : (0 : Int) ≤ (j : Int) := by omega
    have e1 : wrap64 ((i : Int) + (j : Int)) = ((i + j : Nat) : Int) := by rw [w64' _ (by omega) (by omega)]; omega
    have e2 : wrap64 ((j : Int) + 1) = ((j + 1 : Nat) : Int) := by rw [w64' _ (by omega) (by omega)]; omega
    have o1 : o < 1000000000 := ho.2
    have x1 : x < 1000000000 := hxb.2
    have y1 : y < 1000000000 := hyb.2
    have c1 : c < 1000000000 := h.c1
    have e3 : IntKind.u64.wrap (c + (IntKind.u64.wrap ((IntKind.u64.wrap o) + (IntKind.u64.wrap ((IntKind.u64.wrap x) * (IntKind.u64.wrap y)))))) = t := by
      rw [IntWalk.u64_in o ⟨ho.1, by omega⟩, IntWalk.u64_in x ⟨hxb.1, by omega⟩, IntWalk.u64_in y ⟨hyb.1, by omega⟩, IntWalk.u64_in (x * y) ⟨m1, by omega⟩, IntWalk.u64_in (o + x * y) ⟨by omega, by omega⟩, ht, IntWalk.u64_in t ⟨by omega, by omega⟩]
    have e4 : Int.tmod t 1000000000 % 4294967296 = t % 1000000000 := by rw [Int.tmod_eq_emod_of_nonneg (by omega)]; omega
    have e5 : IntKind.u64.wrap (Int.tdiv t 1000000000) = t / 1000000000 := by rw [Int.tdiv_eq_ediv_of_nonneg (by omega), IntWalk.u64_in _ ⟨by omega, by omega⟩]
    rw [show k + (d + 1) + 1 = (k + d + 1) + 1 by omega, mul_l1 (k + d + 1) b out i x c a a.length i b b.length j y o t (i + j) k1 k3 k1 e1 k2 (by rw [rd_nat]; exact hy) (by rw [rd_nat]; exact hod) e3, e4, e5, e2]
    exact he

theorem natMul_go (a b : List Int) (ha : Digs a) (hb : Digs b) (hla : a.length < 1000000) (hlb : b.length < 1000000) :
    ∀ (d i : Nat) (out : List Int) (k : Nat), i + d = a.length → Mul a b out i → d * (b.length + 2) + (a.length + b.length + 2) ≤ k →
      PNatMul.spec_NatMul.l0 k b out a a.length (i : Int) = some (limbs (val a * val b).toNat) := by
  intro d
  induction d with
  | zero =>
    intro i out k hi h hk
    obtain rfl : i = a.length := by omega
    obtain ⟨k, rfl⟩ : ∃ m, k = m + 1 := ⟨k - 1, by omega⟩
    have hlen := h.len
    rw [PNatMul.spec_NatMul.l0, if_neg (by omega)]
    unfold PNatMul.spec_natTrim.f
    rw [natTrim_go _ out k rfl h.digs (by omega) (by omega)]
    have hw := h.worth
    rw [List.take_length] at hw
    simp only [Option.bind_some, trim, hw]
  | succ d ih =>
    intro i out k hi h hk
    rw [Nat.succ_mul] at hk
    obtain ⟨k, rfl⟩ : ∃ m, k = m + b.length + 1 + 1 := ⟨k - (b.length + 2), by omega⟩
    have hilt : i < a.length := by omega
    rw [PNatMul.spec_NatMul.l0, if_pos (by omega), if_pos (by omega), if_pos (by omega), rd_nat]
    obtain ⟨out', hm, he⟩ := natMul_in a b ha hb hla hlb i hilt _ rfl k b.length 0 out 0 (by omega) (h.enter _)
    refine Eq.trans he ?_
    exact ih (i + 1) out' k (by omega) hm (by omega)

theorem Mul.start (a b : List Int) : Mul a b (List.replicate (a.length + b.length) 0) 0 :=
  ⟨by simp, Digs.zeros _, by rw [val_zeros]; simp [val], fun k hk => by rw [List.getD_eq_getElem?_getD, List.getElem?_replicate]; split <;> simp⟩
theorem natMul_f (m n : Nat) (hm : (limbs m).length < 1000000) (hn : (limbs n).length < 1000000) :
    ∃ k, PNatMul.spec_NatMul.f k (limbs m) (limbs n) = some (limbs (m * n)) := by
  obtain ⟨K, hK⟩ : ∃ K, (limbs m).length * ((limbs n).length + 2) + ((limbs m).length + (limbs n).length + 2) = K := ⟨_, rfl⟩
  refine ⟨K, ?_⟩
  have e : wrap64 (((limbs m).length : Int) + ((limbs n).length : Int)) = (((limbs m).length + (limbs n).length : Nat) : Int) := by rw [w64' _ (by omega) (by omega)]; omega
  unfold PNatMul.spec_NatMul.f
  rw [e, if_pos (by omega), Int.toNat_natCast, if_pos (by omega)]
  have h := natMul_go (limbs m) (limbs n) (digs_limbs m) (digs_limbs n) hm hn (limbs m).length 0 (List.replicate ((limbs m).length + (limbs n).length) 0) K (Nat.zero_add _) (Mul.start _ _) (Nat.le_of_eq hK)
  rw [val_limbs, val_limbs, ← Int.natCast_mul, Int.toNat_natCast, show ((0 : Nat) : Int) = 0 from rfl] at h
  exact h

/-- Pow10: the limbs of a power of ten. -/
theorem pow10_go (n : Nat) : ∀ (d i : Nat) (out : List Int) (k : Nat), i + d = n % 9 → d < k → out.length = n / 9 + 1 → n < 1000000 →
    PPow10.spec_Pow10.l0 k n out ((10 ^ i : Nat) : Int) (i : Int) = some (out.set (n / 9) ((10 ^ (n % 9) : Nat) : Int)) := by
  intro d
  have et : Int.tmod (n : Int) 9 = ((n % 9 : Nat) : Int) := by rw [Int.tmod_eq_emod_of_nonneg (by omega)]; omega
  induction d with
  | zero =>
    intro i out k hi hk hl hn
    obtain rfl : i = n % 9 := by omega
    obtain ⟨k, rfl⟩ : ∃ m, k = m + 1 := ⟨k - 1, by omega⟩
    have e1 : wrap64 (Int.tdiv (n : Int) 9) = ((n / 9 : Nat) : Int) := by rw [Int.tdiv_eq_ediv_of_nonneg (by omega), w64' _ (by omega) (by omega)]; omega
    rw [PPow10.spec_Pow10.l0, et, if_neg (by omega), e1, if_pos (by omega), if_pos (by omega), Int.toNat_natCast]
  | succ d ih =>
    intro i out k hi hk hl hn
    obtain ⟨k, rfl⟩ : ∃ m, k = m + 1 := ⟨k - 1, by omega⟩
    have hp : 10 ^ i < 10 ^ 8 := Nat.pow_lt_pow_right (by decide) (by omega)
    have e1 : wrap64 ((i : Int) + 1) = ((i + 1 : Nat) : Int) := by rw [w64' _ (by omega) (by omega)]; omega
    have e2 : (((10 ^ i : Nat) : Int) * 10) % 4294967296 = ((10 ^ (i + 1) : Nat) : Int) := by rw [Nat.pow_succ]; omega
    rw [PPow10.spec_Pow10.l0, et, if_pos (by omega), e1, e2]
    exact ih (i + 1) out k (by omega) (by omega) hl hn
theorem pow10_limbs (n : Nat) : (List.replicate (n / 9 + 1) (0 : Int)).set (n / 9) ((10 ^ (n % 9) : Nat) : Int) = limbs (10 ^ n) := by
  obtain ⟨l, hl⟩ : ∃ l, (List.replicate (n / 9 + 1) (0 : Int)).set (n / 9) ((10 ^ (n % 9) : Nat) : Int) = l := ⟨_, rfl⟩
  have hp : 10 ^ (n % 9) < 10 ^ 9 := Nat.pow_lt_pow_right (by decide) (by omega)
  have hp0 : 0 < 10 ^ (n % 9) := Nat.pow_pos (by decide)
  have hlen : l.length = n / 9 + 1 := by rw [← hl]; simp
  have hd : Digs l := by rw [← hl]; exact (Digs.zeros _).set _ (by omega) (by show _ < (1000000000 : Int); omega)
  have hv : val l = ((10 ^ n : Nat) : Int) := by
    rw [← hl, val_set _ _ _ (by simp), val_zeros]
    have e0 : (List.replicate (n / 9 + 1) (0 : Int)).getD (n / 9) 0 = 0 := by rw [List.getD_eq_getElem?_getD, List.getElem?_replicate]; split <;> simp
    rw [e0, Int.zero_add, Int.sub_zero]
    rw [show (1000000000 : Int) ^ (n / 9) = ((1000000000 ^ (n / 9) : Nat) : Int) by rw [Int.natCast_pow]; rfl, ← Int.natCast_mul]
    refine congrArg _ ?_
    rw [show (1000000000 : Nat) = 10 ^ 9 from rfl, ← Nat.pow_mul, ← Nat.pow_add, Nat.div_add_mod]
  have hlast : ∀ h : l ≠ [], l.getLast h ≠ 0 := fun h => by
    rw [last_of l (n / 9) hlen h, ← hl, getD_set _ _ _ _ (by simp), if_pos rfl]
    omega
  have := limbs_val hd hlast
  rw [hv, Int.toNat_natCast] at this
  rw [hl]
  exact this.symm
theorem pow10_f (n : Nat) (hn : n < 1000000) : ∃ k, PPow10.spec_Pow10.f k (n : Int) = some (limbs (10 ^ n)) := by
  refine ⟨10, ?_⟩
  have e1 : wrap64 (Int.tdiv (n : Int) 9) = ((n / 9 : Nat) : Int) := by rw [Int.tdiv_eq_ediv_of_nonneg (by omega), w64' _ (by omega) (by omega)]; omega
  have e2 : wrap64 (((n / 9 : Nat) : Int) + 1) = ((n / 9 + 1 : Nat) : Int) := by rw [w64' _ (by omega) (by omega)]; omega
  unfold PPow10.spec_Pow10.f
  rw [e1, e2, if_neg (by omega), if_pos (by omega), Int.toNat_natCast, if_pos (by omega)]
  have h := pow10_go n (n % 9) 0 (List.replicate (n / 9 + 1) 0) 10 (by omega) (by omega) (by simp) hn
  rw [show ((10 ^ 0 : Nat) : Int) = 1 from rfl, show ((0 : Nat) : Int) = 0 from rfl, pow10_limbs] at h
  exact h

/-- NatCmp: how two numbers compare. -/
def cmp (m n : Nat) : Int := if m < n then -1 else if m = n then 0 else 1
end Go.Proofs.Ythkmgjkajllemaa.Arith
