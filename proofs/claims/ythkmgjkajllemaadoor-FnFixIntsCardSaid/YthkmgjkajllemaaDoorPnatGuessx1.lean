-- PRINTED BY print.sh 35421559b90ae4d0a3588c463048766b98c2df88dd9212a6774a882060cdf62d: not written by this session
import Derived.Test.YthkmgjkajllemaaDoorPnatGuessx0
namespace Go.Proofs.YthkmgjkajllemaaDoor.PnatGuess
open Go.RowKit Go.Proofs.YthkmgjkajllemaaDoorW.PrintWords Go.Proofs.YthkmgjkajllemaaDoorW.PrintLast Go.Proofs.YthkmgjkajllemaaDoorW.PrintMore
attribute [local go_sem] max2_int min2_int max_two min_two max_three min_three max_four min_four   -- for this text's walks alone
set_option linter.unusedVariables false
set_option linter.unusedSimpArgs false

/-! ### spec_natGuess: function 88 -/
def spec_natGuess.f (l0 : List Int) (l1 : List Int) : Option (Int) := if (l0.length : Int) < (l1.length : Int) then (some 0) else (if 0 ≤ (wrap64 ((l1.length : Int) - 1)) then (if (wrap64 ((l1.length : Int) - 1)) < (l0.length : Int) then (if (l0.length : Int) > (l1.length : Int) then (if 0 ≤ (l1.length : Int) then (if (l1.length : Int) < (l0.length : Int) then (if (wrap64 ((l1.length : Int) - 1)) < (l1.length : Int) then (if (IntKind.u64.wrap (rd l1 (wrap64 ((l1.length : Int) - 1)))) = 0 then (none) else (some (mn (IntKind.u64.wrap (Int.tdiv (IntKind.u64.wrap ((IntKind.u64.wrap (rd l0 (wrap64 ((l1.length : Int) - 1)))) + (IntKind.u64.wrap ((IntKind.u64.wrap (rd l0 (l1.length : Int))) * 1000000000)))) (IntKind.u64.wrap (rd l1 (wrap64 ((l1.length : Int) - 1)))))) 999999999))) else (none)) else (none)) else (none)) else (if (wrap64 ((l1.length : Int) - 1)) < (l1.length : Int) then (if (IntKind.u64.wrap (rd l1 (wrap64 ((l1.length : Int) - 1)))) = 0 then (none) else (some (mn (IntKind.u64.wrap (Int.tdiv (IntKind.u64.wrap (rd l0 (wrap64 ((l1.length : Int) - 1)))) (IntKind.u64.wrap (rd l1 (wrap64 ((l1.length : Int) - 1)))))) 999999999))) else (none))) else (none)) else (none))
set_option maxHeartbeats 8000000 in
set_option maxRecDepth 100000 in
theorem spec_natGuess.calls (A0 : Option Addr) (c0 : Nat) (l0 : List Int) (A1 : Option Addr) (c1 : Nat) (l1 : List Int) (r : Int) (w : World) (hr0 : Kd.C (Kd.int .u32) w A0 l0.length l0) (hc0 : l0.length ≤ c0) (hr1 : Kd.C (Kd.int .u32) w A1 l1.length l1) (hc1 : l1.length ≤ c1) (h : spec_natGuess.f l0 l1 = some r) :
    Calls Tryd.prog 88 #[.slice A0 l0.length c0, .slice A1 l1.length c1] w fun e w' => e = .returned (.int .u64 r) ∧ Below w.heap.size w w' := by
  have HR0 := Aside0.mk hr0
  have HC0 := Aside0.mk hc0
  clear hr0 hc0
  have HR1 := Aside0.mk hr1
  have HC1 := Aside0.mk hc1
  clear hr1 hc1
  have HB := Aside0.mk (Below.refl w.heap.size w)
  have H : (if (l0.length : Int) < (l1.length : Int) then (some 0) else (if 0 ≤ (wrap64 ((l1.length : Int) - 1)) then (if (wrap64 ((l1.length : Int) - 1)) < (l0.length : Int) then (if (l0.length : Int) > (l1.length : Int) then (if 0 ≤ (l1.length : Int) then (if (l1.length : Int) < (l0.length : Int) then (if (wrap64 ((l1.length : Int) - 1)) < (l1.length : Int) then (if (IntKind.u64.wrap (rd l1 (wrap64 ((l1.length : Int) - 1)))) = 0 then (none) else (some (mn (IntKind.u64.wrap (Int.tdiv (IntKind.u64.wrap ((IntKind.u64.wrap (rd l0 (wrap64 ((l1.length : Int) - 1)))) + (IntKind.u64.wrap ((IntKind.u64.wrap (rd l0 (l1.length : Int))) * 1000000000)))) (IntKind.u64.wrap (rd l1 (wrap64 ((l1.length : Int) - 1)))))) 999999999))) else (none)) else (none)) else (none)) else (if (wrap64 ((l1.length : Int) - 1)) < (l1.length : Int) then (if (IntKind.u64.wrap (rd l1 (wrap64 ((l1.length : Int) - 1)))) = 0 then (none) else (some (mn (IntKind.u64.wrap (Int.tdiv (IntKind.u64.wrap (rd l0 (wrap64 ((l1.length : Int) - 1)))) (IntKind.u64.wrap (rd l1 (wrap64 ((l1.length : Int) - 1)))))) 999999999))) else (none))) else (none)) else (none))) = some r := h
  clear h
  by_cases c3 : (l0.length : Int) < (l1.length : Int)
  · rw [if_pos c3] at H
    have c3b0 : decide ((l0.length : Int) < (l1.length : Int)) = true := decide_eq_true c3
    have c3b1 : decide (l0.length < l1.length) = true := decide_eq_true (Int.ofNat_lt.mp c3)
    clear c3
    obtain rfl := Option.some.inj H
    go_enter Tryd.func88, Tryd.ntmps88
    go_wp2
    go_ret
    exact ⟨by first | rfl | (simp [errW_none, errW_some] <;> rfl) | (simp [*, errW_none, errW_some] <;> rfl), by repeat (first | (with_reducible first | exact HB.out | apply below_alloc | apply pw_below_drewN | apply below_drew1) | exact HB.out)⟩
  · rw [if_neg c3] at H
    have c3b0 : decide ((l0.length : Int) < (l1.length : Int)) = false := decide_eq_false c3
    have c3b1 : decide (l0.length < l1.length) = false := decide_eq_false (fun h => c3 (Int.ofNat_lt.mpr h))
    clear c3
    obtain ⟨ji4, hji4⟩ : ∃ j_ : Int, (wrap64 ((l1.length : Int) - 1)) = j_ := ⟨_, rfl⟩
    replace H : (if 0 ≤ (ji4) then (if (ji4) < (l0.length : Int) then (if (l0.length : Int) > (l1.length : Int) then (if 0 ≤ (l1.length : Int) then (if (l1.length : Int) < (l0.length : Int) then (if (ji4) < (l1.length : Int) then (if (IntKind.u64.wrap (rd l1 (ji4))) = 0 then (none) else (some (mn (IntKind.u64.wrap (Int.tdiv (IntKind.u64.wrap ((IntKind.u64.wrap (rd l0 (ji4))) + (IntKind.u64.wrap ((IntKind.u64.wrap (rd l0 (l1.length : Int))) * 1000000000)))) (IntKind.u64.wrap (rd l1 (ji4))))) 999999999))) else (none)) else (none)) else (none)) else (if (ji4) < (l1.length : Int) then (if (IntKind.u64.wrap (rd l1 (ji4))) = 0 then (none) else (some (mn (IntKind.u64.wrap (Int.tdiv (IntKind.u64.wrap (rd l0 (ji4))) (IntKind.u64.wrap (rd l1 (ji4))))) 999999999))) else (none))) else (none)) else (none)) = some r := by first | (rw [hji4] at H; exact H) | (simp only [hji4] at H ⊢; exact H)
    have hji4w : (IntKind.i64.wrap ((l1.length : Int) - 1)) = ji4 := (i64_w _).trans hji4
    by_cases c5 : 0 ≤ (ji4)
    · rw [if_pos c5] at H
      have c5b0 : decide (0 ≤ (ji4)) = true := decide_eq_true c5
      clear c5
      by_cases c6 : (ji4) < (l0.length : Int)
      · rw [if_pos c6] at H
        have c6b0 : decide ((ji4) < (l0.length : Int)) = true := decide_eq_true c6
        clear c6
        by_cases c7 : (l0.length : Int) > (l1.length : Int)
        · rw [if_pos c7] at H
          have c7b0 : decide ((l1.length : Int) < (l0.length : Int)) = true := decide_eq_true c7
          have c7b1 : decide (l1.length < l0.length) = true := decide_eq_true (Int.ofNat_lt.mp c7)
          clear c7
          by_cases c8 : 0 ≤ (l1.length : Int)
          · rw [if_pos c8] at H
            have c8b0 : decide (0 ≤ (l1.length : Int)) = true := decide_eq_true c8
            have c8b1 : decide (0 ≤ l1.length) = true := decide_eq_true (by omega)
            clear c8
            by_cases c9 : (l1.length : Int) < (l0.length : Int)
            · rw [if_pos c9] at H
              have c9b0 : decide ((l1.length : Int) < (l0.length : Int)) = true := decide_eq_true c9
              have c9b1 : decide (l1.length < l0.length) = true := decide_eq_true (Int.ofNat_lt.mp c9)
              clear c9
              by_cases c10 : (ji4) < (l1.length : Int)
              · rw [if_pos c10] at H
                have c10b0 : decide ((ji4) < (l1.length : Int)) = true := decide_eq_true c10
                clear c10
                by_cases c11 : (IntKind.u64.wrap (rd l1 (ji4))) = 0
                · rw [if_pos c11] at H
                  exact absurd H (by simp)
                · rw [if_neg c11] at H
                  have c11b0 : ((IntKind.u64.wrap (rd l1 (ji4))) == 0) = false := beq_eq_false_iff_ne.mpr c11
                  have c11b1 : ((IntKind.u64.wrap (rd l1 (ji4))) != 0) = true := bne_iff_ne.mpr c11
                  obtain ⟨ji12, hji12⟩ : ∃ j_ : Int, (mn (IntKind.u64.wrap (Int.tdiv (IntKind.u64.wrap ((IntKind.u64.wrap (rd l0 (ji4))) + (IntKind.u64.wrap ((IntKind.u64.wrap (rd l0 (l1.length : Int))) * 1000000000)))) (IntKind.u64.wrap (rd l1 (ji4))))) 999999999) = j_ := ⟨_, rfl⟩
                  replace H : (some ji12) = some r := by first | (rw [hji12] at H; exact H) | (simp only [hji12] at H ⊢; exact H)
                  have hji12_ : (if 999999999 < (IntKind.u64.wrap (Int.tdiv (IntKind.u64.wrap ((IntKind.u64.wrap (rd l0 (ji4))) + (IntKind.u64.wrap ((IntKind.u64.wrap (rd l0 (l1.length : Int))) * 1000000000)))) (IntKind.u64.wrap (rd l1 (ji4))))) then 999999999 else (IntKind.u64.wrap (Int.tdiv (IntKind.u64.wrap ((IntKind.u64.wrap (rd l0 (ji4))) + (IntKind.u64.wrap ((IntKind.u64.wrap (rd l0 (l1.length : Int))) * 1000000000)))) (IntKind.u64.wrap (rd l1 (ji4)))))) = ji12 := hji12
                  obtain rfl := Option.some.inj H
                  have p101 : 0 ≤ ((ji4) : Int) := of_decide_eq_true (by first | (with_reducible assumption) | assumption)
                  have q101 : (ji4) < (l0.length : Int) := of_decide_eq_true (by first | (with_reducible assumption) | assumption)
                  obtain ⟨ad101, e101, hx101_0⟩ := Kd.at_int HR0.out (ji4) p101 q101
                  cases e101
                  replace p101 := eq_true p101
                  replace q101 := eq_true q101
                  have p102 : 0 ≤ ((l1.length : Int) : Int) := of_decide_eq_true (by first | (with_reducible assumption) | assumption)
                  have q102 : (l1.length : Int) < (l0.length : Int) := of_decide_eq_true (by first | (with_reducible assumption) | assumption)
                  obtain ⟨ad102, e102, hx102_0⟩ := Kd.at_int HR0.out (l1.length : Int) p102 q102
                  obtain rfl : ad101 = ad102 := (by injection e102)
                  (try simp only [Go.IntWalk.toNatUp] at hx102_0)
                  replace p102 := eq_true p102
                  replace q102 := eq_true q102
                  have p103 : 0 ≤ ((ji4) : Int) := of_decide_eq_true (by first | (with_reducible assumption) | assumption)
                  have q103 : (ji4) < (l1.length : Int) := of_decide_eq_true (by first | (with_reducible assumption) | assumption)
                  obtain ⟨ad103, e103, hx103_0⟩ := Kd.at_int HR1.out (ji4) p103 q103
                  cases e103
                  replace p103 := eq_true p103
                  replace q103 := eq_true q103
                  go_enter Tryd.func88, Tryd.ntmps88
                  go_wp2
                  go_ret
                  exact ⟨by first | rfl | (simp [errW_none, errW_some] <;> rfl) | (simp only [← hji4, ← hji12]; first | rfl | (simp [errW_none, errW_some] <;> rfl)) | (simp [*, errW_none, errW_some] <;> rfl), by repeat (first | (with_reducible first | exact HB.out | apply below_alloc | apply pw_below_drewN | apply below_drew1) | exact HB.out)⟩
              · rw [if_neg c10] at H
                exact absurd H (by simp)
            · rw [if_neg c9] at H
              exact absurd H (by simp)
          · rw [if_neg c8] at H
            exact absurd H (by simp)
        · rw [if_neg c7] at H
          have c7b0 : decide ((l1.length : Int) < (l0.length : Int)) = false := decide_eq_false c7
          have c7b1 : decide (l1.length < l0.length) = false := decide_eq_false (fun h => c7 (Int.ofNat_lt.mpr h))
          clear c7
          by_cases c13 : (ji4) < (l1.length : Int)
          · rw [if_pos c13] at H
            have c13b0 : decide ((ji4) < (l1.length : Int)) = true := decide_eq_true c13
            clear c13
            by_cases c14 : (IntKind.u64.wrap (rd l1 (ji4))) = 0
            · rw [if_pos c14] at H
              exact absurd H (by simp)
            · rw [if_neg c14] at H
              have c14b0 : ((IntKind.u64.wrap (rd l1 (ji4))) == 0) = false := beq_eq_false_iff_ne.mpr c14
              have c14b1 : ((IntKind.u64.wrap (rd l1 (ji4))) != 0) = true := bne_iff_ne.mpr c14
              obtain ⟨ji15, hji15⟩ : ∃ j_ : Int, (mn (IntKind.u64.wrap (Int.tdiv (IntKind.u64.wrap (rd l0 (ji4))) (IntKind.u64.wrap (rd l1 (ji4))))) 999999999) = j_ := ⟨_, rfl⟩
              replace H : (some ji15) = some r := by first | (rw [hji15] at H; exact H) | (simp only [hji15] at H ⊢; exact H)
              have hji15_ : (if 999999999 < (IntKind.u64.wrap (Int.tdiv (IntKind.u64.wrap (rd l0 (ji4))) (IntKind.u64.wrap (rd l1 (ji4))))) then 999999999 else (IntKind.u64.wrap (Int.tdiv (IntKind.u64.wrap (rd l0 (ji4))) (IntKind.u64.wrap (rd l1 (ji4)))))) = ji15 := hji15
              obtain rfl := Option.some.inj H
              have p101 : 0 ≤ ((ji4) : Int) := of_decide_eq_true (by first | (with_reducible assumption) | assumption)
              have q101 : (ji4) < (l0.length : Int) := of_decide_eq_true (by first | (with_reducible assumption) | assumption)
              obtain ⟨ad101, e101, hx101_0⟩ := Kd.at_int HR0.out (ji4) p101 q101
              cases e101
              replace p101 := eq_true p101
              replace q101 := eq_true q101
              have p104 : 0 ≤ ((ji4) : Int) := of_decide_eq_true (by first | (with_reducible assumption) | assumption)
              have q104 : (ji4) < (l1.length : Int) := of_decide_eq_true (by first | (with_reducible assumption) | assumption)
              obtain ⟨ad104, e104, hx104_0⟩ := Kd.at_int HR1.out (ji4) p104 q104
              cases e104
              replace p104 := eq_true p104
              replace q104 := eq_true q104
              go_enter Tryd.func88, Tryd.ntmps88
              go_wp2
              go_ret
              exact ⟨by first | rfl | (simp [errW_none, errW_some] <;> rfl) | (simp only [← hji4, ← hji15]; first | rfl | (simp [errW_none, errW_some] <;> rfl)) | (simp [*, errW_none, errW_some] <;> rfl), by repeat (first | (with_reducible first | exact HB.out | apply below_alloc | apply pw_below_drewN | apply below_drew1) | exact HB.out)⟩
          · rw [if_neg c13] at H
            exact absurd H (by simp)
      · rw [if_neg c6] at H
        exact absurd H (by simp)
    · rw [if_neg c5] at H
      exact absurd H (by simp)

end Go.Proofs.YthkmgjkajllemaaDoor.PnatGuess
