-- PRINTED BY print.sh 35421559b90ae4d0a3588c463048766b98c2df88dd9212a6774a882060cdf62d: not written by this session
import Derived.Test.YthkmgjkajllemaaDoorProundsx0
namespace Go.Proofs.YthkmgjkajllemaaDoor.Prounds
open Go.RowKit Go.Proofs.YthkmgjkajllemaaDoorW.PrintWords Go.Proofs.YthkmgjkajllemaaDoorW.PrintLast Go.Proofs.YthkmgjkajllemaaDoorW.PrintMore
attribute [local go_sem] max2_int min2_int max_two min_two max_three min_three max_four min_four   -- for this text's walks alone
set_option linter.unusedVariables false
set_option linter.unusedSimpArgs false

/-! ### spec_rounds: function 59 -/
def spec_rounds.f (a0 : Int) (a1 : Bool) (a2 : Int) (a3 : Bool) : Option (Bool) := if a0 = 1 then (some true) else (if a0 = 2 then (some a1) else (if a0 = 3 then (some (!a1)) else (if a0 = 4 then (some (decide (a2 ≥ 0))) else (if a0 = 5 then (if a2 > 0 then (some true) else (if a2 = 0 then (some a3) else (some false))) else (if a0 = 6 then (some (decide (a2 > 0))) else (some false))))))
set_option maxHeartbeats 8000000 in
set_option maxRecDepth 100000 in
theorem spec_rounds.calls (a0 : Int) (a1 : Bool) (a2 : Int) (a3 : Bool) (r : Bool) (w : World) (h : spec_rounds.f a0 a1 a2 a3 = some r) :
    Calls Tryd.prog 59 #[.int .i64 a0, .bool a1, .int .i64 a2, .bool a3] w fun e w' => e = .returned (.bool r) ∧ Drawn0 w w' := by
  have H : (if a0 = 1 then (some true) else (if a0 = 2 then (some a1) else (if a0 = 3 then (some (!a1)) else (if a0 = 4 then (some (decide (a2 ≥ 0))) else (if a0 = 5 then (if a2 > 0 then (some true) else (if a2 = 0 then (some a3) else (some false))) else (if a0 = 6 then (some (decide (a2 > 0))) else (some false))))))) = some r := h
  clear h
  by_cases c5 : a0 = 1
  · rw [if_pos c5] at H
    have c5b0 : (a0 == 1) = true := beq_iff_eq.mpr c5
    have c5b1 : (a0 != 1) = false := bne_eq_false_iff_eq.mpr c5
    clear c5
    obtain rfl := Option.some.inj H
    go_enter Tryd.func59, Tryd.ntmps59
    go_wp2
    go_ret
    exact ⟨by first | rfl | (simp; done) | (simp [*]; done), by repeat (first | exact Drawn0.refl _ | apply Drawn0.step)⟩
  · rw [if_neg c5] at H
    have c5b0 : (a0 == 1) = false := beq_eq_false_iff_ne.mpr c5
    have c5b1 : (a0 != 1) = true := bne_iff_ne.mpr c5
    by_cases c6 : a0 = 2
    · rw [if_pos c6] at H
      have c6b0 : (a0 == 2) = true := beq_iff_eq.mpr c6
      have c6b1 : (a0 != 2) = false := bne_eq_false_iff_eq.mpr c6
      clear c6
      obtain rfl := Option.some.inj H
      go_enter Tryd.func59, Tryd.ntmps59
      go_wp2
      go_ret
      exact ⟨by first | rfl | (simp; done) | (simp [*]; done), by repeat (first | exact Drawn0.refl _ | apply Drawn0.step)⟩
    · rw [if_neg c6] at H
      have c6b0 : (a0 == 2) = false := beq_eq_false_iff_ne.mpr c6
      have c6b1 : (a0 != 2) = true := bne_iff_ne.mpr c6
      by_cases c7 : a0 = 3
      · rw [if_pos c7] at H
        have c7b0 : (a0 == 3) = true := beq_iff_eq.mpr c7
        have c7b1 : (a0 != 3) = false := bne_eq_false_iff_eq.mpr c7
        clear c7
        obtain rfl := Option.some.inj H
        go_enter Tryd.func59, Tryd.ntmps59
        go_wp2
        go_ret
        exact ⟨by first | rfl | (simp; done) | (simp [*]; done), by repeat (first | exact Drawn0.refl _ | apply Drawn0.step)⟩
      · rw [if_neg c7] at H
        have c7b0 : (a0 == 3) = false := beq_eq_false_iff_ne.mpr c7
        have c7b1 : (a0 != 3) = true := bne_iff_ne.mpr c7
        by_cases c8 : a0 = 4
        · rw [if_pos c8] at H
          have c8b0 : (a0 == 4) = true := beq_iff_eq.mpr c8
          have c8b1 : (a0 != 4) = false := bne_eq_false_iff_eq.mpr c8
          clear c8
          obtain rfl := Option.some.inj H
          go_enter Tryd.func59, Tryd.ntmps59
          go_wp2
          go_ret
          exact ⟨by first | rfl | (simp; done) | (simp [*]; done), by repeat (first | exact Drawn0.refl _ | apply Drawn0.step)⟩
        · rw [if_neg c8] at H
          have c8b0 : (a0 == 4) = false := beq_eq_false_iff_ne.mpr c8
          have c8b1 : (a0 != 4) = true := bne_iff_ne.mpr c8
          by_cases c9 : a0 = 5
          · rw [if_pos c9] at H
            have c9b0 : (a0 == 5) = true := beq_iff_eq.mpr c9
            have c9b1 : (a0 != 5) = false := bne_eq_false_iff_eq.mpr c9
            clear c9
            by_cases c10 : a2 > 0
            · rw [if_pos c10] at H
              have c10b0 : decide (0 < a2) = true := decide_eq_true c10
              clear c10
              obtain rfl := Option.some.inj H
              go_enter Tryd.func59, Tryd.ntmps59
              go_wp2
              go_ret
              exact ⟨by first | rfl | (simp; done) | (simp [*]; done), by repeat (first | exact Drawn0.refl _ | apply Drawn0.step)⟩
            · rw [if_neg c10] at H
              have c10b0 : decide (0 < a2) = false := decide_eq_false c10
              clear c10
              by_cases c11 : a2 = 0
              · rw [if_pos c11] at H
                have c11b0 : (a2 == 0) = true := beq_iff_eq.mpr c11
                have c11b1 : (a2 != 0) = false := bne_eq_false_iff_eq.mpr c11
                clear c11
                obtain rfl := Option.some.inj H
                go_enter Tryd.func59, Tryd.ntmps59
                go_wp2
                go_ret
                exact ⟨by first | rfl | (simp; done) | (simp [*]; done), by repeat (first | exact Drawn0.refl _ | apply Drawn0.step)⟩
              · rw [if_neg c11] at H
                have c11b0 : (a2 == 0) = false := beq_eq_false_iff_ne.mpr c11
                have c11b1 : (a2 != 0) = true := bne_iff_ne.mpr c11
                obtain rfl := Option.some.inj H
                go_enter Tryd.func59, Tryd.ntmps59
                go_wp2
                go_ret
                exact ⟨by first | rfl | (simp; done) | (simp [*]; done), by repeat (first | exact Drawn0.refl _ | apply Drawn0.step)⟩
          · rw [if_neg c9] at H
            have c9b0 : (a0 == 5) = false := beq_eq_false_iff_ne.mpr c9
            have c9b1 : (a0 != 5) = true := bne_iff_ne.mpr c9
            by_cases c12 : a0 = 6
            · rw [if_pos c12] at H
              have c12b0 : (a0 == 6) = true := beq_iff_eq.mpr c12
              have c12b1 : (a0 != 6) = false := bne_eq_false_iff_eq.mpr c12
              clear c12
              obtain rfl := Option.some.inj H
              go_enter Tryd.func59, Tryd.ntmps59
              go_wp2
              go_ret
              exact ⟨by first | rfl | (simp; done) | (simp [*]; done), by repeat (first | exact Drawn0.refl _ | apply Drawn0.step)⟩
            · rw [if_neg c12] at H
              have c12b0 : (a0 == 6) = false := beq_eq_false_iff_ne.mpr c12
              have c12b1 : (a0 != 6) = true := bne_iff_ne.mpr c12
              obtain rfl := Option.some.inj H
              go_enter Tryd.func59, Tryd.ntmps59
              go_wp2
              go_ret
              exact ⟨by first | rfl | (simp; done) | (simp [*]; done), by repeat (first | exact Drawn0.refl _ | apply Drawn0.step)⟩

/-- THE ONE PURE STATEMENT of spec_rounds: yours. -/
def spec_rounds.Pure : Prop := ∀ (a0 : Int) (a1 : Bool) (a2 : Int) (a3 : Bool), (Lit.int .i64 a0).wf = true → (Lit.int .i64 a2).wf = true → spec_rounds.f a0 a1 a2 a3 = some true
theorem spec_rounds.walk (P : spec_rounds.Pure) (a0 : Int) (a1 : Bool) (a2 : Int) (a3 : Bool) (w : World) (w0 : (Lit.int .i64 a0).wf = true) (w2 : (Lit.int .i64 a2).wf = true) :
    Calls Tryd.prog 59 #[.int .i64 a0, .bool a1, .int .i64 a2, .bool a3] w fun e w' => e = .returned (.bool true) ∧ Below w.heap.size w w' := by
  have h := P a0 a1 a2 a3 w0 w2
  refine (spec_rounds.calls a0 a1 a2 a3 true w h).mono ?_
  rintro e w' ⟨rfl, hd⟩
  exact ⟨rfl, hd.below⟩

end Go.Proofs.YthkmgjkajllemaaDoor.Prounds
