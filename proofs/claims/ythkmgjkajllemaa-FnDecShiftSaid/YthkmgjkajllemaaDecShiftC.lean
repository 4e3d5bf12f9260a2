/- Lemmas and contracts of functions for the theorem of YthkmgjkajllemaaDecShiftE. -/
import Derived.Test.YthkmgjkajllemaaDecShiftB
import Derived.Test.YthkmgjkajllemaaPDecFitx0

/- DecFit as a function, and its contract (the print's text, its conversion mended by hand). -/
namespace Go.Proofs.Ythkmgjkajllemaa.Fit0
open Go.RowKit Go.Proofs.YthkmgjkajllemaaW.PrintWords Go.Proofs.YthkmgjkajllemaaW.PrintLast Go.Proofs.YthkmgjkajllemaaW.PrintMore Go.Proofs.Ythkmgjkajllemaa.PDecFit
attribute [local go_sem] max2_int min2_int max_two min_two max_three min_three max_four min_four   -- for this text's walks alone
set_option linter.unusedVariables false
set_option linter.unusedSimpArgs false

/-! ### spec_DecFit: function 19 -/
mutual
def spec_DecFit.l0 : Nat → Int → Int → List Int → Int → ByteArray → Int → Option (ByteArray × Int)
  | 0, _, _, _, _, _, _ => none
  | k + 1, x1, x2, x7, x8, x102000, x102001 => if x8 < (x102000.size : Int) then (spec_DecFit.j1 k x1 x2 x7 x8 (decide ((x7.length : Int) < x1)) x102000 x102001) else (spec_DecFit.j1 k x1 x2 x7 x8 false x102000 x102001)
def spec_DecFit.j1 : Nat → Int → Int → List Int → Int → Bool → ByteArray → Int → Option (ByteArray × Int)
  | 0, _, _, _, _, _, _, _ => none
  | k + 1, x1, x2, x7, x8, x21, x102000, x102001 => if x21 = true then (if 0 ≤ x8 then (if x8 < (x102000.size : Int) then (if (bt x102000 x8) ≥ 48 then (if (bt x102000 x8) ≤ 57 then (if (x7.length : Int) > 0 then (if x7.length < 140737488355328 then (spec_DecFit.l0 k x1 x2 (x7 ++ [bt x102000 x8]) (wrap64 (x8 + 1)) x102000 x102001) else (none)) else (if (bt x102000 x8) = 48 then (spec_DecFit.l0 k x1 x2 x7 (wrap64 (x8 + 1)) x102000 x102001) else (if x7.length < 140737488355328 then (spec_DecFit.l0 k x1 x2 (x7 ++ [bt x102000 x8]) (wrap64 (x8 + 1)) x102000 x102001) else (none)))) else (spec_DecFit.l0 k x1 x2 x7 (wrap64 (x8 + 1)) x102000 x102001)) else (spec_DecFit.l0 k x1 x2 x7 (wrap64 (x8 + 1)) x102000 x102001)) else (none)) else (none)) else (if (wrap64 (x2 + 1)) = 0 then (none) else (if (x7.length : Int) = 0 then (some ((⟨#[48]⟩ : ByteArray), Int.tmod x102001 (wrap64 (x2 + 1)))) else (if 0 < (x102000.size : Int) then (if (bt x102000 0) = 45 then (if 1 + (strOfNums x7).size ≤ 9223372036854775807 then (some ((⟨#[45]⟩ : ByteArray) ++ (strOfNums x7), Int.tmod x102001 (wrap64 (x2 + 1)))) else (none)) else (some (strOfNums x7, Int.tmod x102001 (wrap64 (x2 + 1))))) else (none))))
end
def spec_DecFit.f (k : Nat) (a0_0 : ByteArray) (a0_1 : Int) (a1 : Int) (a2 : Int) : Option (ByteArray × Int) := spec_DecFit.l0 k a1 a2 ([] : List Int) 0 a0_0 a0_1
theorem spec_DecFit.mono_l : ∀ k, (∀ y0 y1 y2 y3 y4 y5, LeO (spec_DecFit.l0 k y0 y1 y2 y3 y4 y5) (spec_DecFit.l0 (k + 1) y0 y1 y2 y3 y4 y5)) ∧ (∀ y0 y1 y2 y3 y4 y5 y6, LeO (spec_DecFit.j1 k y0 y1 y2 y3 y4 y5 y6) (spec_DecFit.j1 (k + 1) y0 y1 y2 y3 y4 y5 y6))
  | 0 => ⟨fun _ _ _ _ _ _ r h => by simp [spec_DecFit.l0] at h, fun _ _ _ _ _ _ _ r h => by simp [spec_DecFit.j1] at h⟩
  | k + 1 => by
    obtain ⟨ih0, ih1⟩ := spec_DecFit.mono_l k
    refine ⟨?_, ?_⟩
    · intro y0 y1 y2 y3 y4 y5
      unfold spec_DecFit.l0
      repeat' first
      | (with_reducible exact ih0 _ _ _ _ _ _)
      | (with_reducible exact ih1 _ _ _ _ _ _ _)
      | (with_reducible exact LeO.refl _)
      | (with_reducible exact LeO.none _)
      | (with_reducible refine LeO.ite ?_ ?_)
      | (with_reducible refine LeO.bind ?_ (fun _ => ?_))
      | exact ih0 _ _ _ _ _ _
      | exact ih1 _ _ _ _ _ _ _
      | exact LeO.none _
      | refine LeO.ite ?_ ?_
      | refine LeO.bind ?_ (fun _ => ?_)
    · intro y0 y1 y2 y3 y4 y5 y6
      unfold spec_DecFit.j1
      repeat' first
      | (with_reducible exact ih0 _ _ _ _ _ _)
      | (with_reducible exact ih1 _ _ _ _ _ _ _)
      | (with_reducible exact LeO.refl _)
      | (with_reducible exact LeO.none _)
      | (with_reducible refine LeO.ite ?_ ?_)
      | (with_reducible refine LeO.bind ?_ (fun _ => ?_))
      | exact ih0 _ _ _ _ _ _
      | exact ih1 _ _ _ _ _ _ _
      | exact LeO.none _
      | refine LeO.ite ?_ ?_
      | refine LeO.bind ?_ (fun _ => ?_)
theorem spec_DecFit.mono : ∀ a0 a1 a2 a3 k, LeO (spec_DecFit.f k a0 a1 a2 a3) (spec_DecFit.f (k + 1) a0 a1 a2 a3) := by
  intro a0 a1 a2 a3 k
  obtain ⟨ih0, ih1⟩ := spec_DecFit.mono_l k
  unfold spec_DecFit.f
  repeat' first
      | (with_reducible exact ih0 _ _ _ _ _ _)
      | (with_reducible exact ih1 _ _ _ _ _ _ _)
      | (with_reducible exact LeO.refl _)
      | (with_reducible exact LeO.none _)
      | (with_reducible refine LeO.ite ?_ ?_)
      | (with_reducible refine LeO.bind ?_ (fun _ => ?_))
      | exact ih0 _ _ _ _ _ _
      | exact ih1 _ _ _ _ _ _ _
      | exact LeO.none _
      | refine LeO.ite ?_ ?_
      | refine LeO.bind ?_ (fun _ => ?_)
def spec_DecFit.T8 : Bool × List (List Nat × List Nat) := (true, [([], []), ([0], [0]), ([], []), ([2], [2]), ([], []), ([4], [4]), ([3, 5], [3, 5]), ([1, 6], [1, 6]), ([], []), ([8, 7, 0, 1, 2, 3, 4, 5, 6, 7, 8], [7, 8])])
def spec_DecFit.B8 : List Nat := [0, 1, 0, 4, 0, 16, 60, 127, 0, 511]
theorem spec_DecFit.tab8 : rtab .any (opsOf Try.f19 8) = spec_DecFit.T8 := by kernel_rfl
theorem spec_DecFit.bits8 : waitsOk spec_DecFit.T8.2 spec_DecFit.B8 = true := by kernel_rfl
set_option maxHeartbeats 8000000 in
set_option maxRecDepth 100000 in
theorem spec_DecFit.calls (k : Nat) (a0_0 : ByteArray) (a0_1 : Int) (a1 : Int) (a2 : Int) (r1 : ByteArray) (r2 : Int) (w : World) (h : spec_DecFit.f k a0_0 a0_1 a1 a2 = some (r1, r2)) :
    Calls Try.prog 19 #[.agg #[.string a0_0, .int .i64 a0_1], .int .i64 a1, .int .i64 a2] w fun e w' => e = .returned (.agg #[.string r1, .int .i64 r2]) ∧ Below w.heap.size w w' := by
  have hu24 := Try.underlying24
  have HB := Aside0.mk (Below.refl w.heap.size w)
  have H : (spec_DecFit.l0 k a1 a2 ([] : List Int) 0 a0_0 a0_1) = some (r1, r2) := h
  clear h
  have H' := Aside0.mk H
  clear H
  go_enter Try.func19, Try.ntmps19
  go_wp2_with (first | ((with_reducible refine gate_dst (N := 3) rfl ?_); (try (refine gate_guard (by rfl) ?_; dsimp only)); refine box_event ?hg (N := 3) ?hd (cs := #[.string a0_0, .int .i64 a0_1]) (t := 24) ?hr ?_; (case hd => rfl); (case hg => rfl); (case hr => first | (go_simp; done) | (go_simp; rfl)); intro gb101 hg w4 hbox hb; have n0_ := Aside0.mk (below_step (by repeat (first | (with_reducible first | exact HB.out | apply below_alloc | apply pw_below_drewN | apply below_drew1) | exact HB.out)) hb); have n1_ := Aside0.mk (hbox); have n2_ := Aside0.mk ((by rw [hg]; exact (below_size (by repeat (first | (with_reducible first | exact HB.out | apply below_alloc | apply pw_below_drewN | apply below_drew1) | exact HB.out))) : w.heap.size ≤ gb101)); have n3_ := Aside0.mk ((by rw [hg]; exact (below_size (by repeat (first | (with_reducible first | exact HB.out | apply below_alloc | apply pw_below_drewN | apply below_drew1) | exact HB.out))) : w.heap.size ≤ gb101)); clear HB; have HB := n0_; have BK101 := n1_; have GW101 := n2_; have GE101 := n3_; clear n0_ n1_ n2_ n3_; clear hb hbox hg) | ((with_reducible refine gate_dst (N := 6) rfl ?_); (try (refine gate_guard (by rfl) ?_; dsimp only)); refine box_event ?hg (N := 6) ?hd (cs := #[.string (⟨#[]⟩ : ByteArray), .int .i64 0]) (t := 24) ?hr ?_; (case hd => rfl); (case hg => rfl); (case hr => first | (go_simp; done) | (go_simp; rfl)); intro gb102 hg w5 hbox hb; have n0_ := Aside0.mk (blk_below (g := gb101) (o := .cells #[.string a0_0, .int .i64 a0_1] 24 (0, 0)) (by (with_reducible repeat (first | refine blk_drewN ?_ _ | refine blk_drew ?_ | refine blk_alloc ?_ _)); exact BK101.out) hb); have n1_ := Aside0.mk (below_step (by repeat (first | (with_reducible first | exact HB.out | apply below_alloc | apply pw_below_drewN | apply below_drew1 | refine below_set ?_ GE101.out) | exact HB.out)) hb); have n2_ := Aside0.mk (hbox); have n3_ := Aside0.mk ((by rw [hg]; exact (below_size (by repeat (first | (with_reducible first | exact HB.out | apply below_alloc | apply pw_below_drewN | apply below_drew1 | refine below_set ?_ GE101.out) | exact HB.out))) : w.heap.size ≤ gb102)); have n4_ := Aside0.mk ((by rw [hg]; exact (below_size (by repeat (first | (with_reducible first | exact HB.out | apply below_alloc | apply pw_below_drewN | apply below_drew1 | refine below_set ?_ GE101.out) | exact HB.out))) : w.heap.size ≤ gb102)); have n5_ := Aside0.mk ((by rw [hg]; exact Nat.ne_of_lt (blk_lt (g := gb101) (o := .cells #[.string a0_0, .int .i64 a0_1] 24 (0, 0)) (by (with_reducible repeat (first | refine blk_drewN ?_ _ | refine blk_drew ?_ | refine blk_alloc ?_ _)); exact BK101.out)) : gb101 ≠ gb102)); have n6_ := Aside0.mk ((by rw [hg]; exact Nat.ne_of_gt (blk_lt (g := gb101) (o := .cells #[.string a0_0, .int .i64 a0_1] 24 (0, 0)) (by (with_reducible repeat (first | refine blk_drewN ?_ _ | refine blk_drew ?_ | refine blk_alloc ?_ _)); exact BK101.out)) : gb102 ≠ gb101)); clear BK101; clear HB; have BK101 := n0_; have HB := n1_; have BK102 := n2_; have GW102 := n3_; have GE102 := n4_; have NB101_102 := n5_; have NB102_101 := n6_; clear n0_ n1_ n2_ n3_ n4_ n5_ n6_; clear hb hbox hg))
  go_loopg [7, 8] k (fun kq v7 v8 w' => ∃ (x7_1 : List Int) (x8_1 : Int), v8 = .int .i64 x8_1 ∧ Aside0 (spec_DecFit.l0 kq a1 a2 x7_1 x8_1 a0_0 a0_1 = some (r1, r2)) ∧ Aside0 (kq ≤ k) ∧ Aside0 (Kd.R (Kd.int .u8) 5 w' w.heap.size (fun _ => True) v7 x7_1) ∧ Aside0 (w'.heap[gb101]? = some (.cells #[.string a0_0, .int .i64 a0_1] 24 (0, 0))) ∧ Aside0 (w'.heap[gb102]? = some (.cells #[.string (⟨#[]⟩ : ByteArray), .int .i64 0] 24 (0, 0))) ∧ Aside0 (Below w.heap.size w w'))
  case atStart => exact ⟨(([] : List Int)), (0), (by first | rfl | (simp; done) | (simp [*]; done)), H', ⟨Nat.le_refl _⟩, ⟨by first | exact Kd.R_nil _ _ _ _ _ | exact Kd.N_nil _ _ _ _ _ | exact Kd.V_nil _ _ _ _ _ | exact Kd.Q_nil _ _ _ _ _ | exact Kd.S_nil _ _ _ _ _⟩, ⟨by (with_reducible repeat (first | refine blk_drewN ?_ _ | refine blk_drew ?_ | refine blk_alloc ?_ _)); exact BK101.out⟩, ⟨by (with_reducible repeat (first | refine blk_drewN ?_ _ | refine blk_drew ?_ | refine blk_alloc ?_ _)); exact BK102.out⟩, ⟨by repeat (first | (with_reducible first | exact HB.out | apply below_alloc | apply pw_below_drewN | apply below_drew1 | refine below_set ?_ GE101.out | refine below_set ?_ GE102.out) | exact HB.out)⟩⟩
  case round =>
    clear H'
    try clear c1
    try clear p2
    obtain ⟨x7_1, x8_1, rfl, HA, HK1, HO_7, BK101, BK102, HB⟩ := hrel
    cases gk with
    | zero => exact absurd HA.out (by simp [spec_DecFit.l0])
    | succ k1 =>
      have H := HA.out
      clear HA
      simp only [spec_DecFit.l0] at H
      have HC6 := Aside0.mk H
      clear H
      go_upto_region 3 with (fail)
      go_cut [21] (fun v21 wc => ∃ (kq : Nat) (x21_5 : Bool), v21 = .bool x21_5 ∧ Aside0 (spec_DecFit.j1 kq a1 a2 x7_1 x8_1 x21_5 a0_0 a0_1 = some (r1, r2)) ∧ Aside0 (kq ≤ k1) ∧ Aside0 (Kd.R (Kd.int .u8) 5 wc w.heap.size (fun _ => True) u7 x7_1) ∧ Aside0 (wc.heap[gb101]? = some (.cells #[.string a0_0, .int .i64 a0_1] 24 (0, 0))) ∧ Aside0 (wc.heap[gb102]? = some (.cells #[.string (⟨#[]⟩ : ByteArray), .int .i64 0] 24 (0, 0))) ∧ Aside0 (Below w.heap.size w wc))
      case first =>
        have H := HC6.out
        clear HC6
        by_cases c7 : x8_1 < (a0_0.size : Int)
        · rw [if_pos c7] at H
          have c7b0 : decide (x8_1 < (a0_0.size : Int)) = true := decide_eq_true c7
          clear c7
          (first | rw [c7b0] | (simp only [i64_w, i32_w]; rw [c7b0]) | skip)
          have H' := Aside0.mk H
          clear H
          have hnb8 := NB101_102.out
          have hnc8 := NB102_101.out
          have hcz9_0 : wr.cell? ⟨gb101, 0, none⟩ = some (.string a0_0) := (blk_cell BK101.out 0).trans rfl
          have hcz9_1 : wr.cell? ⟨gb101, 1, none⟩ = some (.int .i64 a0_1) := (blk_cell BK101.out 1).trans rfl
          have hfz9_0 := blk_frozen BK101.out 0
          have hfz9_1 := blk_frozen BK101.out 1
          obtain ⟨Ao10, co10, eo10⟩ := Kd.R_slice HO_7.out
          subst eo10
          go_wp2
          go_meet
          case rel => exact ⟨_, (decide ((x7_1.length : Int) < a1)), (by first | rfl | (simp; done) | (simp [*]; done)), H', ⟨by have := HK1.out; first | omega | exact Nat.le_refl _⟩, ⟨by (with_reducible repeat (first | apply Kd.R_alloc | apply Kd.R_drewN | apply Kd.R_drew)); exact HO_7.out⟩, ⟨by (with_reducible repeat (first | refine blk_drewN ?_ _ | refine blk_drew ?_ | refine blk_alloc ?_ _)); exact BK101.out⟩, ⟨by (with_reducible repeat (first | refine blk_drewN ?_ _ | refine blk_drew ?_ | refine blk_alloc ?_ _)); exact BK102.out⟩, ⟨by repeat (first | (with_reducible first | exact HB.out | apply below_alloc | apply pw_below_drewN | apply below_drew1 | refine below_set ?_ GE101.out | refine below_set ?_ GE102.out) | exact HB.out)⟩⟩
        · rw [if_neg c7] at H
          have c7b0 : decide (x8_1 < (a0_0.size : Int)) = false := decide_eq_false c7
          clear c7
          (first | rw [c7b0] | (simp only [i64_w, i32_w]; rw [c7b0]) | skip)
          have H' := Aside0.mk H
          clear H
          have hnb11 := NB101_102.out
          have hnc11 := NB102_101.out
          have hcz12_0 : wr.cell? ⟨gb101, 0, none⟩ = some (.string a0_0) := (blk_cell BK101.out 0).trans rfl
          have hcz12_1 : wr.cell? ⟨gb101, 1, none⟩ = some (.int .i64 a0_1) := (blk_cell BK101.out 1).trans rfl
          have hfz12_0 := blk_frozen BK101.out 0
          have hfz12_1 := blk_frozen BK101.out 1
          go_wp2
          go_meet
          case rel => exact ⟨_, (false), (by first | rfl | (simp; done) | (simp [*]; done)), H', ⟨by have := HK1.out; first | omega | exact Nat.le_refl _⟩, ⟨by (with_reducible repeat (first | apply Kd.R_alloc | apply Kd.R_drewN | apply Kd.R_drew)); exact HO_7.out⟩, ⟨by (with_reducible repeat (first | refine blk_drewN ?_ _ | refine blk_drew ?_ | refine blk_alloc ?_ _)); exact BK101.out⟩, ⟨by (with_reducible repeat (first | refine blk_drewN ?_ _ | refine blk_drew ?_ | refine blk_alloc ?_ _)); exact BK102.out⟩, ⟨by repeat (first | (with_reducible first | exact HB.out | apply below_alloc | apply pw_below_drewN | apply below_drew1 | refine below_set ?_ GE101.out | refine below_set ?_ GE102.out) | exact HB.out)⟩⟩
      case rest =>
        clear HC6
        try clear c1
        try clear p2
        try clear c7
        try clear c7b0
        try clear c8
        try clear c11
        try clear hcz12_0
        try clear hcz12_1
        try clear hcz9_0
        try clear hcz9_1
        try clear hfz12_0
        try clear hfz12_1
        try clear hfz9_0
        try clear hfz9_1
        try clear p2
        obtain ⟨kq, x21_5, rfl, HA, HJ5, HO_7, BK101, BK102, HB⟩ := hcut
        cases kq with
        | zero => exact absurd HA.out (by simp [spec_DecFit.j1])
        | succ kj5 =>
          have H := HA.out
          clear HA
          simp only [spec_DecFit.j1] at H
          by_cases c13 : x21_5 = true
          · subst c13
            have H1 : (if 0 ≤ x8_1 then (if x8_1 < (a0_0.size : Int) then (if (bt a0_0 x8_1) ≥ 48 then (if (bt a0_0 x8_1) ≤ 57 then (if (x7_1.length : Int) > 0 then (if x7_1.length < 140737488355328 then (spec_DecFit.l0 kj5 a1 a2 (x7_1 ++ [bt a0_0 x8_1]) (wrap64 (x8_1 + 1)) a0_0 a0_1) else (none)) else (if (bt a0_0 x8_1) = 48 then (spec_DecFit.l0 kj5 a1 a2 x7_1 (wrap64 (x8_1 + 1)) a0_0 a0_1) else (if x7_1.length < 140737488355328 then (spec_DecFit.l0 kj5 a1 a2 (x7_1 ++ [bt a0_0 x8_1]) (wrap64 (x8_1 + 1)) a0_0 a0_1) else (none)))) else (spec_DecFit.l0 kj5 a1 a2 x7_1 (wrap64 (x8_1 + 1)) a0_0 a0_1)) else (spec_DecFit.l0 kj5 a1 a2 x7_1 (wrap64 (x8_1 + 1)) a0_0 a0_1)) else (none)) else (none)) = some (r1, r2) := by rw [if_pos rfl] at H; exact H
            clear H
            have H := H1
            clear H1
            by_cases c14 : 0 ≤ x8_1
            · rw [if_pos c14] at H
              have c14b0 : decide (0 ≤ x8_1) = true := decide_eq_true c14
              clear c14
              by_cases c15 : x8_1 < (a0_0.size : Int)
              · rw [if_pos c15] at H
                have c15b0 : decide (x8_1 < (a0_0.size : Int)) = true := decide_eq_true c15
                clear c15
                by_cases c17 : (bt a0_0 x8_1) ≥ 48
                · rw [if_pos c17] at H
                  have c17b0 : decide (48 ≤ (bt a0_0 x8_1)) = true := decide_eq_true c17
                  clear c17
                  by_cases c18 : (bt a0_0 x8_1) ≤ 57
                  · rw [if_pos c18] at H
                    have c18b0 : decide ((bt a0_0 x8_1) ≤ 57) = true := decide_eq_true c18
                    clear c18
                    by_cases c19 : (x7_1.length : Int) > 0
                    · rw [if_pos c19] at H
                      have c19b0 : decide (0 < (x7_1.length : Int)) = true := decide_eq_true c19
                      have c19b1 : decide (0 < x7_1.length) = true := decide_eq_true (by omega)
                      clear c19
                      by_cases c20 : x7_1.length < 140737488355328
                      · rw [if_pos c20] at H
                        have LMc20 := Aside0.mk c20
                        clear c20
                        obtain ⟨y103, hy103⟩ : ∃ y_ : List Int, y_ = (x7_1 ++ [bt a0_0 x8_1]) := ⟨_, rfl⟩
                        replace H : (spec_DecFit.l0 kj5 a1 a2 y103 (wrap64 (x8_1 + 1)) a0_0 a0_1) = some (r1, r2) := by first | (rw [hy103]; with_reducible exact H) | (have H2_ := (Option.bind_some _ _).symm.trans H; rw [hy103]; with_reducible exact H2_) | (have H2_ := (Option.bind_some _ _).symm.trans H; with_reducible exact H2_) | with_reducible exact H | (rw [hy103]; exact H) | exact H
                        have Ny103 := Aside0.mk hy103
                        clear hy103
                        have H' := Aside0.mk H
                        clear H
                        have hnb21 := NB101_102.out
                        have hnc21 := NB102_101.out
                        have hcz22_0 : wc.cell? ⟨gb101, 0, none⟩ = some (.string a0_0) := (blk_cell BK101.out 0).trans rfl
                        have hcz22_1 : wc.cell? ⟨gb101, 1, none⟩ = some (.int .i64 a0_1) := (blk_cell BK101.out 1).trans rfl
                        have hfz22_0 := blk_frozen BK101.out 0
                        have hfz22_1 := blk_frozen BK101.out 1
                        have p16 : 0 ≤ (x8_1 : Int) := of_decide_eq_true (by first | (with_reducible assumption) | assumption)
                        have q16 : x8_1 < (a0_0.size : Int) := of_decide_eq_true (by first | (with_reducible assumption) | assumption)
                        have hx16 := bt_at a0_0 x8_1
                        replace p16 := eq_true p16
                        replace q16 := eq_true q16
                        obtain ⟨Ao23, co23, eo23⟩ := Kd.R_slice HO_7.out
                        subst eo23
                        go_wp2_with (first | ((with_reducible refine gate_builtin (b := .append) (xs := #[.tmp 43, .tmp 45]) rfl ?_); (try (refine gate_guard (by rfl) ?_; dsimp only)); at_builtin; refine Kd.R_append (Kd.int .u8) (w0 := w) w.heap.size rfl (.tmp 43) (.tmp 45) 70 5 (.int .u8 0) 1 rfl Try.underlying70 info5 rfl (by decide) (by omega) (.slice Ao23 x7_1.length co23) x7_1 (bt a0_0 x8_1) [.int .u8 (bt a0_0 x8_1)] (fun _ => True) (fun _ => False) rfl rfl ?aP (fun _ hk => hk.elim) ?aF ?aO ?aB ?aS ?aL ?_; (case aP => exact rfl); (case aB => exact (by repeat (first | (with_reducible first | exact HB.out | apply below_alloc | apply pw_below_drewN | apply below_drew1 | refine below_set ?_ GE101.out | refine below_set ?_ GE102.out) | exact HB.out))); (case aF => exact (fun _ _ => trivial)); (case aO => exact (by (with_reducible repeat (first | apply Kd.R_alloc | apply Kd.R_drewN | apply Kd.R_drew)); exact HO_7.out)); (case aS => exact (below_size (by repeat (first | (with_reducible first | exact HB.out | apply below_alloc | apply pw_below_drewN | apply below_drew1 | refine below_set ?_ GE101.out | refine below_set ?_ GE102.out) | exact HB.out)))); (case aL => have := LMc20.out; omega); intro v104 w24 ho hb hg hat; rw [← Ny103.out] at ho; have n0_ := Aside0.mk (blk_grown (g := gb101) (o := .cells #[.string a0_0, .int .i64 a0_1] 24 (0, 0)) (by (with_reducible repeat (first | refine blk_drewN ?_ _ | refine blk_drew ?_ | refine blk_alloc ?_ _)); exact BK101.out) hg (Kd.R_ne HO_7.out BK101.out (by decide))); have n1_ := Aside0.mk (blk_grown (g := gb102) (o := .cells #[.string (⟨#[]⟩ : ByteArray), .int .i64 0] 24 (0, 0)) (by (with_reducible repeat (first | refine blk_drewN ?_ _ | refine blk_drew ?_ | refine blk_alloc ?_ _)); exact BK102.out) hg (Kd.R_ne HO_7.out BK102.out (by decide))); have n2_ := Aside0.mk (hb); have n3_ := Aside0.mk (ho); clear BK101; clear BK102; clear HB; clear HO_7; have BK101 := n0_; have BK102 := n1_; have HB := n2_; have HO105 := n3_; clear n0_ n1_ n2_ n3_; clear ho hb hg hat))
                        go_roundg kj5
                        case measure => have := HK1.out; have := HJ5.out; omega
                        case rel => exact ⟨(y103), (wrap64 (x8_1 + 1)), (by first | rfl | (simp; done) | (simp [*]; done)), H', ⟨by have := HK1.out; have := HJ5.out; omega⟩, ⟨by (with_reducible repeat (first | apply Kd.R_alloc | apply Kd.R_drewN | apply Kd.R_drew)); exact HO105.out⟩, ⟨by (with_reducible repeat (first | refine blk_drewN ?_ _ | refine blk_drew ?_ | refine blk_alloc ?_ _)); exact BK101.out⟩, ⟨by (with_reducible repeat (first | refine blk_drewN ?_ _ | refine blk_drew ?_ | refine blk_alloc ?_ _)); exact BK102.out⟩, ⟨by repeat (first | (with_reducible first | exact HB.out | apply below_alloc | apply pw_below_drewN | apply below_drew1 | refine below_set ?_ GE101.out | refine below_set ?_ GE102.out) | exact HB.out)⟩⟩
                      · rw [if_neg c20] at H
                        exact absurd H (by simp)
                    · rw [if_neg c19] at H
                      have c19b0 : decide (0 < (x7_1.length : Int)) = false := decide_eq_false c19
                      have c19b1 : decide (0 < x7_1.length) = false := decide_eq_false (by omega)
                      clear c19
                      by_cases c25 : (bt a0_0 x8_1) = 48
                      · rw [if_pos c25] at H
                        have c25b0 : ((bt a0_0 x8_1) == 48) = true := beq_iff_eq.mpr c25
                        have c25b1 : ((bt a0_0 x8_1) != 48) = false := bne_eq_false_iff_eq.mpr c25
                        clear c25
                        have H' := Aside0.mk H
                        clear H
                        have hnb26 := NB101_102.out
                        have hnc26 := NB102_101.out
                        have hcz27_0 : wc.cell? ⟨gb101, 0, none⟩ = some (.string a0_0) := (blk_cell BK101.out 0).trans rfl
                        have hcz27_1 : wc.cell? ⟨gb101, 1, none⟩ = some (.int .i64 a0_1) := (blk_cell BK101.out 1).trans rfl
                        have hfz27_0 := blk_frozen BK101.out 0
                        have hfz27_1 := blk_frozen BK101.out 1
                        have p16 : 0 ≤ (x8_1 : Int) := of_decide_eq_true (by first | (with_reducible assumption) | assumption)
                        have q16 : x8_1 < (a0_0.size : Int) := of_decide_eq_true (by first | (with_reducible assumption) | assumption)
                        have hx16 := bt_at a0_0 x8_1
                        replace p16 := eq_true p16
                        replace q16 := eq_true q16
                        obtain ⟨Ao28, co28, eo28⟩ := Kd.R_slice HO_7.out
                        subst eo28
                        go_wp2
                        go_roundg kj5
                        case measure => have := HK1.out; have := HJ5.out; omega
                        case rel => exact ⟨(x7_1), (wrap64 (x8_1 + 1)), (by first | rfl | (simp; done) | (simp [*]; done)), H', ⟨by have := HK1.out; have := HJ5.out; omega⟩, ⟨by (with_reducible repeat (first | apply Kd.R_alloc | apply Kd.R_drewN | apply Kd.R_drew)); exact HO_7.out⟩, ⟨by (with_reducible repeat (first | refine blk_drewN ?_ _ | refine blk_drew ?_ | refine blk_alloc ?_ _)); exact BK101.out⟩, ⟨by (with_reducible repeat (first | refine blk_drewN ?_ _ | refine blk_drew ?_ | refine blk_alloc ?_ _)); exact BK102.out⟩, ⟨by repeat (first | (with_reducible first | exact HB.out | apply below_alloc | apply pw_below_drewN | apply below_drew1 | refine below_set ?_ GE101.out | refine below_set ?_ GE102.out) | exact HB.out)⟩⟩
                      · rw [if_neg c25] at H
                        have c25b0 : ((bt a0_0 x8_1) == 48) = false := beq_eq_false_iff_ne.mpr c25
                        have c25b1 : ((bt a0_0 x8_1) != 48) = true := bne_iff_ne.mpr c25
                        by_cases c29 : x7_1.length < 140737488355328
                        · rw [if_pos c29] at H
                          have LMc29 := Aside0.mk c29
                          clear c29
                          obtain ⟨y106, hy106⟩ : ∃ y_ : List Int, y_ = (x7_1 ++ [bt a0_0 x8_1]) := ⟨_, rfl⟩
                          replace H : (spec_DecFit.l0 kj5 a1 a2 y106 (wrap64 (x8_1 + 1)) a0_0 a0_1) = some (r1, r2) := by first | (rw [hy106]; with_reducible exact H) | (have H2_ := (Option.bind_some _ _).symm.trans H; rw [hy106]; with_reducible exact H2_) | (have H2_ := (Option.bind_some _ _).symm.trans H; with_reducible exact H2_) | with_reducible exact H | (rw [hy106]; exact H) | exact H
                          have Ny106 := Aside0.mk hy106
                          clear hy106
                          have H' := Aside0.mk H
                          clear H
                          have hnb30 := NB101_102.out
                          have hnc30 := NB102_101.out
                          have hcz31_0 : wc.cell? ⟨gb101, 0, none⟩ = some (.string a0_0) := (blk_cell BK101.out 0).trans rfl
                          have hcz31_1 : wc.cell? ⟨gb101, 1, none⟩ = some (.int .i64 a0_1) := (blk_cell BK101.out 1).trans rfl
                          have hfz31_0 := blk_frozen BK101.out 0
                          have hfz31_1 := blk_frozen BK101.out 1
                          have p16 : 0 ≤ (x8_1 : Int) := of_decide_eq_true (by first | (with_reducible assumption) | assumption)
                          have q16 : x8_1 < (a0_0.size : Int) := of_decide_eq_true (by first | (with_reducible assumption) | assumption)
                          have hx16 := bt_at a0_0 x8_1
                          replace p16 := eq_true p16
                          replace q16 := eq_true q16
                          obtain ⟨Ao32, co32, eo32⟩ := Kd.R_slice HO_7.out
                          subst eo32
                          go_wp2_with (first | ((with_reducible refine gate_builtin (b := .append) (xs := #[.tmp 43, .tmp 45]) rfl ?_); (try (refine gate_guard (by rfl) ?_; dsimp only)); at_builtin; refine Kd.R_append (Kd.int .u8) (w0 := w) w.heap.size rfl (.tmp 43) (.tmp 45) 70 5 (.int .u8 0) 1 rfl Try.underlying70 info5 rfl (by decide) (by omega) (.slice Ao32 x7_1.length co32) x7_1 (bt a0_0 x8_1) [.int .u8 (bt a0_0 x8_1)] (fun _ => True) (fun _ => False) rfl rfl ?aP (fun _ hk => hk.elim) ?aF ?aO ?aB ?aS ?aL ?_; (case aP => exact rfl); (case aB => exact (by repeat (first | (with_reducible first | exact HB.out | apply below_alloc | apply pw_below_drewN | apply below_drew1 | refine below_set ?_ GE101.out | refine below_set ?_ GE102.out) | exact HB.out))); (case aF => exact (fun _ _ => trivial)); (case aO => exact (by (with_reducible repeat (first | apply Kd.R_alloc | apply Kd.R_drewN | apply Kd.R_drew)); exact HO_7.out)); (case aS => exact (below_size (by repeat (first | (with_reducible first | exact HB.out | apply below_alloc | apply pw_below_drewN | apply below_drew1 | refine below_set ?_ GE101.out | refine below_set ?_ GE102.out) | exact HB.out)))); (case aL => have := LMc29.out; omega); intro v107 w33 ho hb hg hat; rw [← Ny106.out] at ho; have n0_ := Aside0.mk (blk_grown (g := gb101) (o := .cells #[.string a0_0, .int .i64 a0_1] 24 (0, 0)) (by (with_reducible repeat (first | refine blk_drewN ?_ _ | refine blk_drew ?_ | refine blk_alloc ?_ _)); exact BK101.out) hg (Kd.R_ne HO_7.out BK101.out (by decide))); have n1_ := Aside0.mk (blk_grown (g := gb102) (o := .cells #[.string (⟨#[]⟩ : ByteArray), .int .i64 0] 24 (0, 0)) (by (with_reducible repeat (first | refine blk_drewN ?_ _ | refine blk_drew ?_ | refine blk_alloc ?_ _)); exact BK102.out) hg (Kd.R_ne HO_7.out BK102.out (by decide))); have n2_ := Aside0.mk (hb); have n3_ := Aside0.mk (ho); clear BK101; clear BK102; clear HB; clear HO_7; have BK101 := n0_; have BK102 := n1_; have HB := n2_; have HO108 := n3_; clear n0_ n1_ n2_ n3_; clear ho hb hg hat))
                          go_roundg kj5
                          case measure => have := HK1.out; have := HJ5.out; omega
                          case rel => exact ⟨(y106), (wrap64 (x8_1 + 1)), (by first | rfl | (simp; done) | (simp [*]; done)), H', ⟨by have := HK1.out; have := HJ5.out; omega⟩, ⟨by (with_reducible repeat (first | apply Kd.R_alloc | apply Kd.R_drewN | apply Kd.R_drew)); exact HO108.out⟩, ⟨by (with_reducible repeat (first | refine blk_drewN ?_ _ | refine blk_drew ?_ | refine blk_alloc ?_ _)); exact BK101.out⟩, ⟨by (with_reducible repeat (first | refine blk_drewN ?_ _ | refine blk_drew ?_ | refine blk_alloc ?_ _)); exact BK102.out⟩, ⟨by repeat (first | (with_reducible first | exact HB.out | apply below_alloc | apply pw_below_drewN | apply below_drew1 | refine below_set ?_ GE101.out | refine below_set ?_ GE102.out) | exact HB.out)⟩⟩
                        · rw [if_neg c29] at H
                          exact absurd H (by simp)
                  · rw [if_neg c18] at H
                    have c18b0 : decide ((bt a0_0 x8_1) ≤ 57) = false := decide_eq_false c18
                    clear c18
                    have H' := Aside0.mk H
                    clear H
                    have hnb34 := NB101_102.out
                    have hnc34 := NB102_101.out
                    have hcz35_0 : wc.cell? ⟨gb101, 0, none⟩ = some (.string a0_0) := (blk_cell BK101.out 0).trans rfl
                    have hcz35_1 : wc.cell? ⟨gb101, 1, none⟩ = some (.int .i64 a0_1) := (blk_cell BK101.out 1).trans rfl
                    have hfz35_0 := blk_frozen BK101.out 0
                    have hfz35_1 := blk_frozen BK101.out 1
                    have p16 : 0 ≤ (x8_1 : Int) := of_decide_eq_true (by first | (with_reducible assumption) | assumption)
                    have q16 : x8_1 < (a0_0.size : Int) := of_decide_eq_true (by first | (with_reducible assumption) | assumption)
                    have hx16 := bt_at a0_0 x8_1
                    replace p16 := eq_true p16
                    replace q16 := eq_true q16
                    go_wp2
                    go_roundg kj5
                    case measure => have := HK1.out; have := HJ5.out; omega
                    case rel => exact ⟨(x7_1), (wrap64 (x8_1 + 1)), (by first | rfl | (simp; done) | (simp [*]; done)), H', ⟨by have := HK1.out; have := HJ5.out; omega⟩, ⟨by (with_reducible repeat (first | apply Kd.R_alloc | apply Kd.R_drewN | apply Kd.R_drew)); exact HO_7.out⟩, ⟨by (with_reducible repeat (first | refine blk_drewN ?_ _ | refine blk_drew ?_ | refine blk_alloc ?_ _)); exact BK101.out⟩, ⟨by (with_reducible repeat (first | refine blk_drewN ?_ _ | refine blk_drew ?_ | refine blk_alloc ?_ _)); exact BK102.out⟩, ⟨by repeat (first | (with_reducible first | exact HB.out | apply below_alloc | apply pw_below_drewN | apply below_drew1 | refine below_set ?_ GE101.out | refine below_set ?_ GE102.out) | exact HB.out)⟩⟩
                · rw [if_neg c17] at H
                  have c17b0 : decide (48 ≤ (bt a0_0 x8_1)) = false := decide_eq_false c17
                  clear c17
                  have H' := Aside0.mk H
                  clear H
                  have hnb36 := NB101_102.out
                  have hnc36 := NB102_101.out
                  have hcz37_0 : wc.cell? ⟨gb101, 0, none⟩ = some (.string a0_0) := (blk_cell BK101.out 0).trans rfl
                  have hcz37_1 : wc.cell? ⟨gb101, 1, none⟩ = some (.int .i64 a0_1) := (blk_cell BK101.out 1).trans rfl
                  have hfz37_0 := blk_frozen BK101.out 0
                  have hfz37_1 := blk_frozen BK101.out 1
                  have p16 : 0 ≤ (x8_1 : Int) := of_decide_eq_true (by first | (with_reducible assumption) | assumption)
                  have q16 : x8_1 < (a0_0.size : Int) := of_decide_eq_true (by first | (with_reducible assumption) | assumption)
                  have hx16 := bt_at a0_0 x8_1
                  replace p16 := eq_true p16
                  replace q16 := eq_true q16
                  go_wp2
                  go_roundg kj5
                  case measure => have := HK1.out; have := HJ5.out; omega
                  case rel => exact ⟨(x7_1), (wrap64 (x8_1 + 1)), (by first | rfl | (simp; done) | (simp [*]; done)), H', ⟨by have := HK1.out; have := HJ5.out; omega⟩, ⟨by (with_reducible repeat (first | apply Kd.R_alloc | apply Kd.R_drewN | apply Kd.R_drew)); exact HO_7.out⟩, ⟨by (with_reducible repeat (first | refine blk_drewN ?_ _ | refine blk_drew ?_ | refine blk_alloc ?_ _)); exact BK101.out⟩, ⟨by (with_reducible repeat (first | refine blk_drewN ?_ _ | refine blk_drew ?_ | refine blk_alloc ?_ _)); exact BK102.out⟩, ⟨by repeat (first | (with_reducible first | exact HB.out | apply below_alloc | apply pw_below_drewN | apply below_drew1 | refine below_set ?_ GE101.out | refine below_set ?_ GE102.out) | exact HB.out)⟩⟩
              · rw [if_neg c15] at H
                exact absurd H (by simp)
            · rw [if_neg c14] at H
              exact absurd H (by simp)
          · replace c13 := Bool.eq_false_iff.mpr c13
            subst c13
            have H1 : (if (wrap64 (a2 + 1)) = 0 then (none) else (if (x7_1.length : Int) = 0 then (some ((⟨#[48]⟩ : ByteArray), Int.tmod a0_1 (wrap64 (a2 + 1)))) else (if 0 < (a0_0.size : Int) then (if (bt a0_0 0) = 45 then (if 1 + (strOfNums x7_1).size ≤ 9223372036854775807 then (some ((⟨#[45]⟩ : ByteArray) ++ (strOfNums x7_1), Int.tmod a0_1 (wrap64 (a2 + 1)))) else (none)) else (some (strOfNums x7_1, Int.tmod a0_1 (wrap64 (a2 + 1))))) else (none)))) = some (r1, r2) := by rw [if_neg (show ¬ (false = true) by decide)] at H; exact H
            clear H
            have H := H1
            clear H1
            by_cases c38 : (wrap64 (a2 + 1)) = 0
            · rw [if_pos c38] at H
              exact absurd H (by simp)
            · rw [if_neg c38] at H
              have c38b0 : ((wrap64 (a2 + 1)) == 0) = false := beq_eq_false_iff_ne.mpr c38
              have c38b1 : ((wrap64 (a2 + 1)) != 0) = true := bne_iff_ne.mpr c38
              by_cases c39 : (x7_1.length : Int) = 0
              · rw [if_pos c39] at H
                have c39b0 : ((x7_1.length : Int) == 0) = true := beq_iff_eq.mpr c39
                have c39b1 : ((x7_1.length : Int) != 0) = false := bne_eq_false_iff_eq.mpr c39
                clear c39
                simp only [Option.some.injEq, Prod.mk.injEq] at H
                obtain ⟨rfl, rfl⟩ := H
                try go_wp2
                have n0_ := Aside0.mk (Kd.R_drew HO_7.out)
                have n1_ := Aside0.mk (blk_drew BK101.out)
                have n2_ := Aside0.mk (blk_drew BK102.out)
                have n3_ := Aside0.mk (below_drew1 HB.out)
                clear HO_7
                clear BK101
                clear BK102
                clear HB
                have HO_7 := n0_
                have BK101 := n1_
                have BK102 := n2_
                have HB := n3_
                clear n0_ n1_ n2_ n3_
                have hcv41 := own_string (P := Try.prog) Try.underlying70 Try.underlying5 Try.underlying9 (Kd.own_of_R HO_7.out)
                obtain ⟨Acv, ccv, rfl, hccv, hcv⟩ := Kd.R_reads HO_7.out
                refine start_ (n := 10) (S := fun w' => w'.cell? ⟨gb101, 0, none⟩ = some (.string a0_0) ∧ w'.cell? ⟨gb101, 1, none⟩ = some (.int .i64 a0_1) ∧ (Kd.int .u8).C w' Acv x7_1.length x7_1) (ds := []) #[false, false, false, false, false, false, false, false, false, false] (by kernel_rfl) rfl rfl ⟨(blk_cell BK101.out 0).trans rfl, (blk_cell BK101.out 1).trans rfl, hcv⟩ (fun hHeld => ?_); refine with_tabW spec_DecFit.tab8 spec_DecFit.bits8 (fun HT_ HW_ => ?_)
                generalize wc.drew = w40 at HO_7 BK101 BK102 HB hHeld ⊢
                refine pure_ (i := 0) (N := some 47) (v := ?_) (a' := ?_) #[true, false, false, false, false, false, false, false, false, false] rfl rfl (any_of HT_.out (by kernel_rfl)) (fun _ _ _ h => h) (Or.inl ⟨by rfl, ?_⟩) ?_ ?_
                rotate_left
                · intro w'
                  go_simp
                  with_reducible rfl
                rotate_left
                · simp only [Act.put, List.setIfInBounds_toArray, List.set_cons_zero, List.set_cons_succ, i64_w, i32_w]
                  rfl
                refine take_ (i := 1) (N := some 48) (v := ?_) (a' := ?_) #[true, true, false, false, false, false, false, false, false, false] rfl rfl (take_ofW HT_.out HW_.out (by kernel_rfl)) (fun _ _ _ h => h) (Or.inl ⟨by rfl, ?_⟩) hHeld ?_ ?_
                rotate_left
                · rintro w' ⟨s0, s1, s2⟩
                  go_simp
                  rw [Kd.C_string (e := 5) Try.underlying70 Try.underlying5 Try.underlying9 s2]
                  rfl
                rotate_left
                · simp only [Act.put, List.setIfInBounds_toArray, List.set_cons_zero, List.set_cons_succ, i64_w, i32_w]
                  rfl
                refine pure_ (i := 2) (N := some 49) (v := ?_) (a' := ?_) #[true, true, true, false, false, false, false, false, false, false] rfl rfl (any_of HT_.out (by kernel_rfl)) (fun _ _ _ h => h) (Or.inl ⟨by rfl, ?_⟩) ?_ ?_
                rotate_left
                · intro w'
                  go_simp
                  with_reducible rfl
                rotate_left
                · simp only [Act.put, List.setIfInBounds_toArray, List.set_cons_zero, List.set_cons_succ, i64_w, i32_w]
                  rfl
                refine pure_ (i := 4) (N := some 51) (v := ?_) (a' := ?_) #[true, true, true, false, true, false, false, false, false, false] rfl rfl (any_of HT_.out (by kernel_rfl)) (fun _ _ _ h => h) (Or.inl ⟨by rfl, ?_⟩) ?_ ?_
                rotate_left
                · intro w'
                  go_simp
                  with_reducible rfl
                rotate_left
                · simp only [Act.put, List.setIfInBounds_toArray, List.set_cons_zero, List.set_cons_succ, i64_w, i32_w]
                  rfl
                refine pure_ (i := 5) (N := some 52) (v := ?_) (a' := ?_) #[true, true, true, false, true, true, false, false, false, false] rfl rfl (any_of HT_.out (by kernel_rfl)) (fun _ _ _ h => h) (Or.inl ⟨by rfl, ?_⟩) ?_ ?_
                rotate_left
                · intro w'
                  go_simp
                  with_reducible rfl
                rotate_left
                · simp only [Act.put, List.setIfInBounds_toArray, List.set_cons_zero, List.set_cons_succ, i64_w, i32_w]
                  rfl
                refine take_ (i := 3) (N := some 50) (v := ?_) (a' := ?_) #[true, true, true, true, true, true, false, false, false, false] rfl rfl (take_ofW HT_.out HW_.out (by kernel_rfl)) (fun _ _ _ h => h) (Or.inl ⟨by rfl, ?_⟩) hHeld ?_ ?_
                rotate_left
                · rintro w' ⟨s0, s1, s2⟩
                  go_simp
                  with_reducible rfl
                rotate_left
                · simp only [Act.put, List.setIfInBounds_toArray, List.set_cons_zero, List.set_cons_succ, i64_w, i32_w]
                  rfl
                refine pure_ (i := 6) (N := some 53) (v := ?_) (a' := ?_) #[true, true, true, true, true, true, true, false, false, false] rfl rfl (any_of HT_.out (by kernel_rfl)) (fun _ _ _ h => h) (Or.inl ⟨by rfl, ?_⟩) ?_ ?_
                rotate_left
                · intro w'
                  go_simp
                  with_reducible rfl
                rotate_left
                · simp only [Act.put, List.setIfInBounds_toArray, List.set_cons_zero, List.set_cons_succ, i64_w, i32_w]
                  rfl
                refine pure_ (i := 7) (N := some 54) (v := ?_) (a' := ?_) #[true, true, true, true, true, true, true, true, false, false] rfl rfl (any_of HT_.out (by kernel_rfl)) (fun _ _ _ h => h) (Or.inl ⟨by rfl, ?_⟩) ?_ ?_
                rotate_left
                · intro w'
                  go_simp
                  with_reducible rfl
                rotate_left
                · simp only [Act.put, List.setIfInBounds_toArray, List.set_cons_zero, List.set_cons_succ, i64_w, i32_w]
                  rfl
                refine one_ (i := 8) (N := some 10) #[true, true, true, true, true, true, true, true, true, false] rfl rfl (one_of HT_.out (by kernel_rfl)) (by decide) (fun K hK => ?_)
                refine box_step ?hg (N := 10) ?hd (cs := #[.string (⟨#[]⟩ : ByteArray), .int .i64 0]) (t := 24) ?hr ?_; (case hd => rfl); (case hg => rfl); (case hr => first | (go_simp; done) | (go_simp; rfl))
                intro gb109 hg w42 hbox hb
                have n0_ := Aside0.mk (Kd.R_below (by (with_reducible repeat (first | apply Kd.R_alloc | apply Kd.R_drewN | apply Kd.R_drew)); exact HO_7.out) hb)
                have n1_ := Aside0.mk (blk_below (g := gb101) (o := .cells #[.string a0_0, .int .i64 a0_1] 24 (0, 0)) (by (with_reducible repeat (first | refine blk_drewN ?_ _ | refine blk_drew ?_ | refine blk_alloc ?_ _)); exact BK101.out) hb)
                have n2_ := Aside0.mk (blk_below (g := gb102) (o := .cells #[.string (⟨#[]⟩ : ByteArray), .int .i64 0] 24 (0, 0)) (by (with_reducible repeat (first | refine blk_drewN ?_ _ | refine blk_drew ?_ | refine blk_alloc ?_ _)); exact BK102.out) hb)
                have n3_ := Aside0.mk (below_step (by repeat (first | (with_reducible first | exact HB.out | apply below_alloc | apply pw_below_drewN | apply below_drew1 | refine below_set ?_ GE101.out | refine below_set ?_ GE102.out) | exact HB.out)) hb)
                have n4_ := Aside0.mk (hbox)
                have n5_ := Aside0.mk ((by rw [hg]; exact (below_size (by repeat (first | (with_reducible first | exact HB.out | apply below_alloc | apply pw_below_drewN | apply below_drew1 | refine below_set ?_ GE101.out | refine below_set ?_ GE102.out) | exact HB.out))) : w.heap.size ≤ gb109))
                have n6_ := Aside0.mk ((by rw [hg]; exact (below_size (by repeat (first | (with_reducible first | exact HB.out | apply below_alloc | apply pw_below_drewN | apply below_drew1 | refine below_set ?_ GE101.out | refine below_set ?_ GE102.out) | exact HB.out))) : w.heap.size ≤ gb109))
                have n7_ := Aside0.mk ((by rw [hg]; exact Nat.ne_of_lt (blk_lt (g := gb101) (o := .cells #[.string a0_0, .int .i64 a0_1] 24 (0, 0)) (by (with_reducible repeat (first | refine blk_drewN ?_ _ | refine blk_drew ?_ | refine blk_alloc ?_ _)); exact BK101.out)) : gb101 ≠ gb109))
                have n8_ := Aside0.mk ((by rw [hg]; exact Nat.ne_of_gt (blk_lt (g := gb101) (o := .cells #[.string a0_0, .int .i64 a0_1] 24 (0, 0)) (by (with_reducible repeat (first | refine blk_drewN ?_ _ | refine blk_drew ?_ | refine blk_alloc ?_ _)); exact BK101.out)) : gb109 ≠ gb101))
                have n9_ := Aside0.mk ((by rw [hg]; exact Nat.ne_of_lt (blk_lt (g := gb102) (o := .cells #[.string (⟨#[]⟩ : ByteArray), .int .i64 0] 24 (0, 0)) (by (with_reducible repeat (first | refine blk_drewN ?_ _ | refine blk_drew ?_ | refine blk_alloc ?_ _)); exact BK102.out)) : gb102 ≠ gb109))
                have n10_ := Aside0.mk ((by rw [hg]; exact Nat.ne_of_gt (blk_lt (g := gb102) (o := .cells #[.string (⟨#[]⟩ : ByteArray), .int .i64 0] 24 (0, 0)) (by (with_reducible repeat (first | refine blk_drewN ?_ _ | refine blk_drew ?_ | refine blk_alloc ?_ _)); exact BK102.out)) : gb109 ≠ gb102))
                clear HO_7
                clear BK101
                clear BK102
                clear HB
                have HO_7 := n0_
                have BK101 := n1_
                have BK102 := n2_
                have HB := n3_
                have BK109 := n4_
                have GW109 := n5_
                have GE109 := n6_
                have NB101_109 := n7_
                have NB109_101 := n8_
                have NB102_109 := n9_
                have NB109_102 := n10_
                clear n0_ n1_ n2_ n3_ n4_ n5_ n6_ n7_ n8_ n9_ n10_
                clear hb hbox hg
                refine hK.out _ _ ⟨(blk_cell BK101.out 0).trans rfl, (blk_cell BK101.out 1).trans rfl, (by obtain ⟨A_, c_, e_, h1_, h2_⟩ := Kd.R_reads HO_7.out; cases e_; exact h2_)⟩ (fun hHeld => ?_)
                clear hK K
                refine norm_ (a' := ?_) ?_ ?_
                rotate_left
                · show Act.put _ (some 10) _ = _
                  simp only [Act.put, List.setIfInBounds_toArray, List.set_cons_zero, List.set_cons_succ, i64_w, i32_w]
                  rfl
                refine one_ (i := 9) (N := none) #[true, true, true, true, true, true, true, true, true, true] rfl rfl (one_of HT_.out (by kernel_rfl)) (by decide) (fun K hK => ?_)
                have hs44 : w42.cell? ⟨gb109, 0, none⟩ = some (.string (⟨#[]⟩ : ByteArray)) := (blk_cell BK109.out 0).trans rfl
                have hfs44 := blk_frozen BK109.out 0
                have hns44_0 := NB101_109.out
                have hns44_1 := NB102_109.out
                have hms44_0 := NB109_101.out
                have hms44_1 := NB109_102.out
                have hs45 : w42.cell? ⟨gb109, 1, none⟩ = some (.int .i64 0) := (blk_cell BK109.out 1).trans rfl
                have hfs45 := blk_frozen BK109.out 1
                have hns45_0 := NB101_109.out
                have hns45_1 := NB102_109.out
                have hms45_0 := NB109_101.out
                have hms45_1 := NB109_102.out
                refine skip_ (w1 := ?_) (by rfl) rfl ?_ ?_
                rotate_left
                · go_simp
                  rfl
                refine hK.out _ _ ⟨((cell_far (p := ⟨gb109, _, none⟩) NB101_109.out _).trans (((cell_far (p := ⟨gb109, _, none⟩) NB101_109.out _).trans (hHeld.1)))), ((cell_far (p := ⟨gb109, _, none⟩) NB101_109.out _).trans (((cell_far (p := ⟨gb109, _, none⟩) NB101_109.out _).trans (hHeld.2.1)))), (Kd.R_reads' (Kd.R_set (Kd.R_set HO_7.out BK109.out (by decide) _ _) (blk_set BK109.out _ _) (by decide) _ _)).2.2⟩ (fun hHeld => ?_)
                clear hK K
                refine done_ (done_of HT_.out (by kernel_rfl)) ?_
                obtain ⟨Ao46, co46, eo46⟩ := Kd.R_slice HO_7.out
                cases eo46
                have hnb47 := NB109_101.out
                have hnc47 := NB101_109.out
                have hnb48 := NB109_102.out
                have hnc48 := NB102_109.out
                have hcz49_0 : w42.cell? ⟨gb109, 0, none⟩ = some (.string (⟨#[]⟩ : ByteArray)) := (blk_cell BK109.out 0).trans rfl
                have hcz49_1 : w42.cell? ⟨gb109, 1, none⟩ = some (.int .i64 0) := (blk_cell BK109.out 1).trans rfl
                have hfz49_0 := blk_frozen BK109.out 0
                have hfz49_1 := blk_frozen BK109.out 1
                have hnb50 := NB102_101.out
                have hnc50 := NB101_102.out
                have hcz51_0 : w42.cell? ⟨gb102, 0, none⟩ = some (.string (⟨#[]⟩ : ByteArray)) := (blk_cell BK102.out 0).trans rfl
                have hcz51_1 : w42.cell? ⟨gb102, 1, none⟩ = some (.int .i64 0) := (blk_cell BK102.out 1).trans rfl
                have hfz51_0 := blk_frozen BK102.out 0
                have hfz51_1 := blk_frozen BK102.out 1
                try go_wp2
                refine bodyPost_ret (results_cell_row rfl _ _ gb102 24 #[.string (⟨#[48]⟩ : ByteArray), .int .i64 (Int.tmod a0_1 (wrap64 (a2 + 1)))] (0, 0) _ rfl (by (with_reducible repeat (first | refine blk_drewN ?_ _ | refine blk_drew ?_ | refine blk_alloc ?_ _)); refine blk_put (cs := #[.string (⟨#[48]⟩ : ByteArray), .int .i64 0]) ?_ 1 _ rfl; (with_reducible repeat (first | refine blk_drewN ?_ _ | refine blk_drew ?_ | refine blk_alloc ?_ _)); refine blk_put (cs := #[.string (⟨#[]⟩ : ByteArray), .int .i64 0]) ?_ 0 _ rfl; (with_reducible repeat (first | refine blk_drewN ?_ _ | refine blk_drew ?_ | refine blk_alloc ?_ _)); refine blk_far ?_ NB102_109.out _; (with_reducible repeat (first | refine blk_drewN ?_ _ | refine blk_drew ?_ | refine blk_alloc ?_ _)); refine blk_far ?_ NB102_109.out _; (with_reducible repeat (first | refine blk_drewN ?_ _ | refine blk_drew ?_ | refine blk_alloc ?_ _)); refine blk_far ?_ NB102_109.out _; (with_reducible repeat (first | refine blk_drewN ?_ _ | refine blk_drew ?_ | refine blk_alloc ?_ _)); exact BK102.out) Try.underlying24 rfl (by kernel_rfl)) rfl ?_
                exact ⟨by first | rfl | (simp [errW_none, errW_some] <;> rfl) | (simp [*, errW_none, errW_some] <;> rfl), by repeat (first | (with_reducible first | exact HB.out | apply below_alloc | apply pw_below_drewN | apply below_drew1 | refine below_set ?_ GE101.out | refine below_set ?_ GE102.out | refine below_set ?_ GE109.out) | exact HB.out)⟩
              · rw [if_neg c39] at H
                have c39b0 : ((x7_1.length : Int) == 0) = false := beq_eq_false_iff_ne.mpr c39
                have c39b1 : ((x7_1.length : Int) != 0) = true := bne_iff_ne.mpr c39
                have c39b2 : ¬ (x7_1 = []) := fun h_ => c39 (by rw [h_]; rfl)
                by_cases c52 : 0 < (a0_0.size : Int)
                · rw [if_pos c52] at H
                  have c52b0 : decide (0 < (a0_0.size : Int)) = true := decide_eq_true c52
                  have c52b1 : decide (0 < a0_0.size) = true := decide_eq_true (by omega)
                  clear c52
                  by_cases c54 : (bt a0_0 0) = 45
                  · rw [if_pos c54] at H
                    have c54b0 : ((bt a0_0 0) == 45) = true := beq_iff_eq.mpr c54
                    have c54b1 : ((bt a0_0 0) != 45) = false := bne_eq_false_iff_eq.mpr c54
                    clear c54
                    by_cases c55 : 1 + (strOfNums x7_1).size ≤ 9223372036854775807
                    · rw [if_pos c55] at H
                      have c55b0 := eq_true c55
                      have c55b1 : decide (1 + (strOfNums x7_1).size ≤ 9223372036854775807) = true := decide_eq_true c55
                      try have c55b2 : (9223372036854775807 < 1 + (strOfNums x7_1).size) = False := eq_false (Nat.not_lt.2 c55)
                      simp only [Option.some.injEq, Prod.mk.injEq] at H
                      obtain ⟨rfl, rfl⟩ := H
                      try go_wp2
                      have n0_ := Aside0.mk (Kd.R_drew HO_7.out)
                      have n1_ := Aside0.mk (blk_drew BK101.out)
                      have n2_ := Aside0.mk (blk_drew BK102.out)
                      have n3_ := Aside0.mk (below_drew1 HB.out)
                      clear HO_7
                      clear BK101
                      clear BK102
                      clear HB
                      have HO_7 := n0_
                      have BK101 := n1_
                      have BK102 := n2_
                      have HB := n3_
                      clear n0_ n1_ n2_ n3_
                      have hcv57 := own_string (P := Try.prog) Try.underlying70 Try.underlying5 Try.underlying9 (Kd.own_of_R HO_7.out)
                      obtain ⟨Acv, ccv, rfl, hccv, hcv⟩ := Kd.R_reads HO_7.out
                      refine start_ (n := 10) (S := fun w' => w'.cell? ⟨gb101, 0, none⟩ = some (.string a0_0) ∧ w'.cell? ⟨gb101, 1, none⟩ = some (.int .i64 a0_1) ∧ (Kd.int .u8).C w' Acv x7_1.length x7_1) (ds := []) #[false, false, false, false, false, false, false, false, false, false] (by kernel_rfl) rfl rfl ⟨(blk_cell BK101.out 0).trans rfl, (blk_cell BK101.out 1).trans rfl, hcv⟩ (fun hHeld => ?_); refine with_tabW spec_DecFit.tab8 spec_DecFit.bits8 (fun HT_ HW_ => ?_)
                      generalize wc.drew = w56 at HO_7 BK101 BK102 HB hHeld ⊢
                      refine pure_ (i := 0) (N := some 47) (v := ?_) (a' := ?_) #[true, false, false, false, false, false, false, false, false, false] rfl rfl (any_of HT_.out (by kernel_rfl)) (fun _ _ _ h => h) (Or.inl ⟨by rfl, ?_⟩) ?_ ?_
                      rotate_left
                      · intro w'
                        go_simp
                        with_reducible rfl
                      rotate_left
                      · simp only [Act.put, List.setIfInBounds_toArray, List.set_cons_zero, List.set_cons_succ, i64_w, i32_w]
                        rfl
                      refine take_ (i := 1) (N := some 48) (v := ?_) (a' := ?_) #[true, true, false, false, false, false, false, false, false, false] rfl rfl (take_ofW HT_.out HW_.out (by kernel_rfl)) (fun _ _ _ h => h) (Or.inl ⟨by rfl, ?_⟩) hHeld ?_ ?_
                      rotate_left
                      · rintro w' ⟨s0, s1, s2⟩
                        go_simp
                        rw [Kd.C_string (e := 5) Try.underlying70 Try.underlying5 Try.underlying9 s2]
                        rfl
                      rotate_left
                      · simp only [Act.put, List.setIfInBounds_toArray, List.set_cons_zero, List.set_cons_succ, i64_w, i32_w]
                        rfl
                      refine pure_ (i := 2) (N := some 49) (v := ?_) (a' := ?_) #[true, true, true, false, false, false, false, false, false, false] rfl rfl (any_of HT_.out (by kernel_rfl)) (fun _ _ _ h => h) (Or.inl ⟨by rfl, ?_⟩) ?_ ?_
                      rotate_left
                      · intro w'
                        go_simp
                        with_reducible rfl
                      rotate_left
                      · simp only [Act.put, List.setIfInBounds_toArray, List.set_cons_zero, List.set_cons_succ, i64_w, i32_w]
                        rfl
                      refine pure_ (i := 4) (N := some 51) (v := ?_) (a' := ?_) #[true, true, true, false, true, false, false, false, false, false] rfl rfl (any_of HT_.out (by kernel_rfl)) (fun _ _ _ h => h) (Or.inl ⟨by rfl, ?_⟩) ?_ ?_
                      rotate_left
                      · intro w'
                        go_simp
                        with_reducible rfl
                      rotate_left
                      · simp only [Act.put, List.setIfInBounds_toArray, List.set_cons_zero, List.set_cons_succ, i64_w, i32_w]
                        rfl
                      refine pure_ (i := 5) (N := some 52) (v := ?_) (a' := ?_) #[true, true, true, false, true, true, false, false, false, false] rfl rfl (any_of HT_.out (by kernel_rfl)) (fun _ _ _ h => h) (Or.inl ⟨by rfl, ?_⟩) ?_ ?_
                      rotate_left
                      · intro w'
                        go_simp
                        with_reducible rfl
                      rotate_left
                      · simp only [Act.put, List.setIfInBounds_toArray, List.set_cons_zero, List.set_cons_succ, i64_w, i32_w]
                        rfl
                      refine take_ (i := 3) (N := some 50) (v := ?_) (a' := ?_) #[true, true, true, true, true, true, false, false, false, false] rfl rfl (take_ofW HT_.out HW_.out (by kernel_rfl)) (fun _ _ _ h => h) (Or.inl ⟨by rfl, ?_⟩) hHeld ?_ ?_
                      rotate_left
                      · rintro w' ⟨s0, s1, s2⟩
                        go_simp
                        with_reducible rfl
                      rotate_left
                      · simp only [Act.put, List.setIfInBounds_toArray, List.set_cons_zero, List.set_cons_succ, i64_w, i32_w]
                        rfl
                      refine pure_ (i := 6) (N := some 53) (v := ?_) (a' := ?_) #[true, true, true, true, true, true, true, false, false, false] rfl rfl (any_of HT_.out (by kernel_rfl)) (fun _ _ _ h => h) (Or.inl ⟨by rfl, ?_⟩) ?_ ?_
                      rotate_left
                      · intro w'
                        go_simp
                        with_reducible rfl
                      rotate_left
                      · simp only [Act.put, List.setIfInBounds_toArray, List.set_cons_zero, List.set_cons_succ, i64_w, i32_w]
                        rfl
                      refine pure_ (i := 7) (N := some 54) (v := ?_) (a' := ?_) #[true, true, true, true, true, true, true, true, false, false] rfl rfl (any_of HT_.out (by kernel_rfl)) (fun _ _ _ h => h) (Or.inl ⟨by rfl, ?_⟩) ?_ ?_
                      rotate_left
                      · intro w'
                        go_simp
                        with_reducible rfl
                      rotate_left
                      · simp only [Act.put, List.setIfInBounds_toArray, List.set_cons_zero, List.set_cons_succ, i64_w, i32_w]
                        rfl
                      refine one_ (i := 8) (N := some 10) #[true, true, true, true, true, true, true, true, true, false] rfl rfl (one_of HT_.out (by kernel_rfl)) (by decide) (fun K hK => ?_)
                      refine box_step ?hg (N := 10) ?hd (cs := #[.string (⟨#[]⟩ : ByteArray), .int .i64 0]) (t := 24) ?hr ?_; (case hd => rfl); (case hg => rfl); (case hr => first | (go_simp; done) | (go_simp; rfl))
                      intro gb109 hg w58 hbox hb
                      have n0_ := Aside0.mk (Kd.R_below (by (with_reducible repeat (first | apply Kd.R_alloc | apply Kd.R_drewN | apply Kd.R_drew)); exact HO_7.out) hb)
                      have n1_ := Aside0.mk (blk_below (g := gb101) (o := .cells #[.string a0_0, .int .i64 a0_1] 24 (0, 0)) (by (with_reducible repeat (first | refine blk_drewN ?_ _ | refine blk_drew ?_ | refine blk_alloc ?_ _)); exact BK101.out) hb)
                      have n2_ := Aside0.mk (blk_below (g := gb102) (o := .cells #[.string (⟨#[]⟩ : ByteArray), .int .i64 0] 24 (0, 0)) (by (with_reducible repeat (first | refine blk_drewN ?_ _ | refine blk_drew ?_ | refine blk_alloc ?_ _)); exact BK102.out) hb)
                      have n3_ := Aside0.mk (below_step (by repeat (first | (with_reducible first | exact HB.out | apply below_alloc | apply pw_below_drewN | apply below_drew1 | refine below_set ?_ GE101.out | refine below_set ?_ GE102.out) | exact HB.out)) hb)
                      have n4_ := Aside0.mk (hbox)
                      have n5_ := Aside0.mk ((by rw [hg]; exact (below_size (by repeat (first | (with_reducible first | exact HB.out | apply below_alloc | apply pw_below_drewN | apply below_drew1 | refine below_set ?_ GE101.out | refine below_set ?_ GE102.out) | exact HB.out))) : w.heap.size ≤ gb109))
                      have n6_ := Aside0.mk ((by rw [hg]; exact (below_size (by repeat (first | (with_reducible first | exact HB.out | apply below_alloc | apply pw_below_drewN | apply below_drew1 | refine below_set ?_ GE101.out | refine below_set ?_ GE102.out) | exact HB.out))) : w.heap.size ≤ gb109))
                      have n7_ := Aside0.mk ((by rw [hg]; exact Nat.ne_of_lt (blk_lt (g := gb101) (o := .cells #[.string a0_0, .int .i64 a0_1] 24 (0, 0)) (by (with_reducible repeat (first | refine blk_drewN ?_ _ | refine blk_drew ?_ | refine blk_alloc ?_ _)); exact BK101.out)) : gb101 ≠ gb109))
                      have n8_ := Aside0.mk ((by rw [hg]; exact Nat.ne_of_gt (blk_lt (g := gb101) (o := .cells #[.string a0_0, .int .i64 a0_1] 24 (0, 0)) (by (with_reducible repeat (first | refine blk_drewN ?_ _ | refine blk_drew ?_ | refine blk_alloc ?_ _)); exact BK101.out)) : gb109 ≠ gb101))
                      have n9_ := Aside0.mk ((by rw [hg]; exact Nat.ne_of_lt (blk_lt (g := gb102) (o := .cells #[.string (⟨#[]⟩ : ByteArray), .int .i64 0] 24 (0, 0)) (by (with_reducible repeat (first | refine blk_drewN ?_ _ | refine blk_drew ?_ | refine blk_alloc ?_ _)); exact BK102.out)) : gb102 ≠ gb109))
                      have n10_ := Aside0.mk ((by rw [hg]; exact Nat.ne_of_gt (blk_lt (g := gb102) (o := .cells #[.string (⟨#[]⟩ : ByteArray), .int .i64 0] 24 (0, 0)) (by (with_reducible repeat (first | refine blk_drewN ?_ _ | refine blk_drew ?_ | refine blk_alloc ?_ _)); exact BK102.out)) : gb109 ≠ gb102))
                      clear HO_7
                      clear BK101
                      clear BK102
                      clear HB
                      have HO_7 := n0_
                      have BK101 := n1_
                      have BK102 := n2_
                      have HB := n3_
                      have BK109 := n4_
                      have GW109 := n5_
                      have GE109 := n6_
                      have NB101_109 := n7_
                      have NB109_101 := n8_
                      have NB102_109 := n9_
                      have NB109_102 := n10_
                      clear n0_ n1_ n2_ n3_ n4_ n5_ n6_ n7_ n8_ n9_ n10_
                      clear hb hbox hg
                      refine hK.out _ _ ⟨(blk_cell BK101.out 0).trans rfl, (blk_cell BK101.out 1).trans rfl, (by obtain ⟨A_, c_, e_, h1_, h2_⟩ := Kd.R_reads HO_7.out; cases e_; exact h2_)⟩ (fun hHeld => ?_)
                      clear hK K
                      refine norm_ (a' := ?_) ?_ ?_
                      rotate_left
                      · show Act.put _ (some 10) _ = _
                        simp only [Act.put, List.setIfInBounds_toArray, List.set_cons_zero, List.set_cons_succ, i64_w, i32_w]
                        rfl
                      refine one_ (i := 9) (N := none) #[true, true, true, true, true, true, true, true, true, true] rfl rfl (one_of HT_.out (by kernel_rfl)) (by decide) (fun K hK => ?_)
                      have hs60 : w58.cell? ⟨gb109, 0, none⟩ = some (.string (⟨#[]⟩ : ByteArray)) := (blk_cell BK109.out 0).trans rfl
                      have hfs60 := blk_frozen BK109.out 0
                      have hns60_0 := NB101_109.out
                      have hns60_1 := NB102_109.out
                      have hms60_0 := NB109_101.out
                      have hms60_1 := NB109_102.out
                      have hs61 : w58.cell? ⟨gb109, 1, none⟩ = some (.int .i64 0) := (blk_cell BK109.out 1).trans rfl
                      have hfs61 := blk_frozen BK109.out 1
                      have hns61_0 := NB101_109.out
                      have hns61_1 := NB102_109.out
                      have hms61_0 := NB109_101.out
                      have hms61_1 := NB109_102.out
                      refine skip_ (w1 := ?_) (by rfl) rfl ?_ ?_
                      rotate_left
                      · go_simp
                        rfl
                      refine hK.out _ _ ⟨((cell_far (p := ⟨gb109, _, none⟩) NB101_109.out _).trans (((cell_far (p := ⟨gb109, _, none⟩) NB101_109.out _).trans (hHeld.1)))), ((cell_far (p := ⟨gb109, _, none⟩) NB101_109.out _).trans (((cell_far (p := ⟨gb109, _, none⟩) NB101_109.out _).trans (hHeld.2.1)))), (Kd.R_reads' (Kd.R_set (Kd.R_set HO_7.out BK109.out (by decide) _ _) (blk_set BK109.out _ _) (by decide) _ _)).2.2⟩ (fun hHeld => ?_)
                      clear hK K
                      refine done_ (done_of HT_.out (by kernel_rfl)) ?_
                      obtain ⟨Ao62, co62, eo62⟩ := Kd.R_slice HO_7.out
                      cases eo62
                      have hnb63 := NB101_102.out
                      have hnc63 := NB102_101.out
                      have hnb64 := NB101_109.out
                      have hnc64 := NB109_101.out
                      have hcz65_0 : w58.cell? ⟨gb101, 0, none⟩ = some (.string a0_0) := (blk_cell BK101.out 0).trans rfl
                      have hcz65_1 : w58.cell? ⟨gb101, 1, none⟩ = some (.int .i64 a0_1) := (blk_cell BK101.out 1).trans rfl
                      have hfz65_0 := blk_frozen BK101.out 0
                      have hfz65_1 := blk_frozen BK101.out 1
                      have p53 : 0 ≤ (0 : Int) := (by omega)
                      have q53 : 0 < a0_0.size := (by have : (0 : Int) < (a0_0.size : Int) := of_decide_eq_true (by first | (with_reducible assumption) | assumption); omega)
                      have hx53 : ∀ h : 0 < a0_0.size, ((a0_0[0]'h).toNat : Int) = bt a0_0 0 := bt_at a0_0 0
                      clear p53
                      have qi53 : (0 < (a0_0.size : Int)) = True := eq_true (of_decide_eq_true (by first | (with_reducible assumption) | assumption))
                      replace q53 := eq_true q53
                      have hnb66 := NB109_102.out
                      have hnc66 := NB102_109.out
                      have hcz67_0 : w58.cell? ⟨gb109, 0, none⟩ = some (.string (⟨#[]⟩ : ByteArray)) := (blk_cell BK109.out 0).trans rfl
                      have hcz67_1 : w58.cell? ⟨gb109, 1, none⟩ = some (.int .i64 0) := (blk_cell BK109.out 1).trans rfl
                      have hfz67_0 := blk_frozen BK109.out 0
                      have hfz67_1 := blk_frozen BK109.out 1
                      have hcz68_0 : w58.cell? ⟨gb102, 0, none⟩ = some (.string (⟨#[]⟩ : ByteArray)) := (blk_cell BK102.out 0).trans rfl
                      have hcz68_1 : w58.cell? ⟨gb102, 1, none⟩ = some (.int .i64 0) := (blk_cell BK102.out 1).trans rfl
                      have hfz68_0 := blk_frozen BK102.out 0
                      have hfz68_1 := blk_frozen BK102.out 1
                      try go_wp2
                      refine bodyPost_ret (results_cell_row rfl _ _ gb102 24 #[.string ((⟨#[45]⟩ : ByteArray) ++ (strOfNums x7_1)), .int .i64 (Int.tmod a0_1 (wrap64 (a2 + 1)))] (0, 0) _ rfl (by (with_reducible repeat (first | refine blk_drewN ?_ _ | refine blk_drew ?_ | refine blk_alloc ?_ _)); refine blk_put (cs := #[.string ((⟨#[45]⟩ : ByteArray) ++ (strOfNums x7_1)), .int .i64 0]) ?_ 1 _ rfl; (with_reducible repeat (first | refine blk_drewN ?_ _ | refine blk_drew ?_ | refine blk_alloc ?_ _)); refine blk_put (cs := #[.string (⟨#[]⟩ : ByteArray), .int .i64 0]) ?_ 0 _ rfl; (with_reducible repeat (first | refine blk_drewN ?_ _ | refine blk_drew ?_ | refine blk_alloc ?_ _)); refine blk_far ?_ NB102_109.out _; (with_reducible repeat (first | refine blk_drewN ?_ _ | refine blk_drew ?_ | refine blk_alloc ?_ _)); refine blk_far ?_ NB102_109.out _; (with_reducible repeat (first | refine blk_drewN ?_ _ | refine blk_drew ?_ | refine blk_alloc ?_ _)); refine blk_far ?_ NB102_109.out _; (with_reducible repeat (first | refine blk_drewN ?_ _ | refine blk_drew ?_ | refine blk_alloc ?_ _)); exact BK102.out) Try.underlying24 rfl (by kernel_rfl)) rfl ?_
                      exact ⟨by first | rfl | (simp [errW_none, errW_some] <;> rfl) | (simp [*, errW_none, errW_some] <;> rfl), by repeat (first | (with_reducible first | exact HB.out | apply below_alloc | apply pw_below_drewN | apply below_drew1 | refine below_set ?_ GE101.out | refine below_set ?_ GE102.out | refine below_set ?_ GE109.out) | exact HB.out)⟩
                    · rw [if_neg c55] at H
                      exact absurd H (by simp)
                  · rw [if_neg c54] at H
                    have c54b0 : ((bt a0_0 0) == 45) = false := beq_eq_false_iff_ne.mpr c54
                    have c54b1 : ((bt a0_0 0) != 45) = true := bne_iff_ne.mpr c54
                    simp only [Option.some.injEq, Prod.mk.injEq] at H
                    obtain ⟨rfl, rfl⟩ := H
                    try go_wp2
                    have n0_ := Aside0.mk (Kd.R_drew HO_7.out)
                    have n1_ := Aside0.mk (blk_drew BK101.out)
                    have n2_ := Aside0.mk (blk_drew BK102.out)
                    have n3_ := Aside0.mk (below_drew1 HB.out)
                    clear HO_7
                    clear BK101
                    clear BK102
                    clear HB
                    have HO_7 := n0_
                    have BK101 := n1_
                    have BK102 := n2_
                    have HB := n3_
                    clear n0_ n1_ n2_ n3_
                    have hcv70 := own_string (P := Try.prog) Try.underlying70 Try.underlying5 Try.underlying9 (Kd.own_of_R HO_7.out)
                    obtain ⟨Acv, ccv, rfl, hccv, hcv⟩ := Kd.R_reads HO_7.out
                    refine start_ (n := 10) (S := fun w' => w'.cell? ⟨gb101, 0, none⟩ = some (.string a0_0) ∧ w'.cell? ⟨gb101, 1, none⟩ = some (.int .i64 a0_1) ∧ (Kd.int .u8).C w' Acv x7_1.length x7_1) (ds := []) #[false, false, false, false, false, false, false, false, false, false] (by kernel_rfl) rfl rfl ⟨(blk_cell BK101.out 0).trans rfl, (blk_cell BK101.out 1).trans rfl, hcv⟩ (fun hHeld => ?_); refine with_tabW spec_DecFit.tab8 spec_DecFit.bits8 (fun HT_ HW_ => ?_)
                    generalize wc.drew = w69 at HO_7 BK101 BK102 HB hHeld ⊢
                    refine pure_ (i := 0) (N := some 47) (v := ?_) (a' := ?_) #[true, false, false, false, false, false, false, false, false, false] rfl rfl (any_of HT_.out (by kernel_rfl)) (fun _ _ _ h => h) (Or.inl ⟨by rfl, ?_⟩) ?_ ?_
                    rotate_left
                    · intro w'
                      go_simp
                      with_reducible rfl
                    rotate_left
                    · simp only [Act.put, List.setIfInBounds_toArray, List.set_cons_zero, List.set_cons_succ, i64_w, i32_w]
                      rfl
                    refine take_ (i := 1) (N := some 48) (v := ?_) (a' := ?_) #[true, true, false, false, false, false, false, false, false, false] rfl rfl (take_ofW HT_.out HW_.out (by kernel_rfl)) (fun _ _ _ h => h) (Or.inl ⟨by rfl, ?_⟩) hHeld ?_ ?_
                    rotate_left
                    · rintro w' ⟨s0, s1, s2⟩
                      go_simp
                      rw [Kd.C_string (e := 5) Try.underlying70 Try.underlying5 Try.underlying9 s2]
                      rfl
                    rotate_left
                    · simp only [Act.put, List.setIfInBounds_toArray, List.set_cons_zero, List.set_cons_succ, i64_w, i32_w]
                      rfl
                    refine pure_ (i := 2) (N := some 49) (v := ?_) (a' := ?_) #[true, true, true, false, false, false, false, false, false, false] rfl rfl (any_of HT_.out (by kernel_rfl)) (fun _ _ _ h => h) (Or.inl ⟨by rfl, ?_⟩) ?_ ?_
                    rotate_left
                    · intro w'
                      go_simp
                      with_reducible rfl
                    rotate_left
                    · simp only [Act.put, List.setIfInBounds_toArray, List.set_cons_zero, List.set_cons_succ, i64_w, i32_w]
                      rfl
                    refine pure_ (i := 4) (N := some 51) (v := ?_) (a' := ?_) #[true, true, true, false, true, false, false, false, false, false] rfl rfl (any_of HT_.out (by kernel_rfl)) (fun _ _ _ h => h) (Or.inl ⟨by rfl, ?_⟩) ?_ ?_
                    rotate_left
                    · intro w'
                      go_simp
                      with_reducible rfl
                    rotate_left
                    · simp only [Act.put, List.setIfInBounds_toArray, List.set_cons_zero, List.set_cons_succ, i64_w, i32_w]
                      rfl
                    refine pure_ (i := 5) (N := some 52) (v := ?_) (a' := ?_) #[true, true, true, false, true, true, false, false, false, false] rfl rfl (any_of HT_.out (by kernel_rfl)) (fun _ _ _ h => h) (Or.inl ⟨by rfl, ?_⟩) ?_ ?_
                    rotate_left
                    · intro w'
                      go_simp
                      with_reducible rfl
                    rotate_left
                    · simp only [Act.put, List.setIfInBounds_toArray, List.set_cons_zero, List.set_cons_succ, i64_w, i32_w]
                      rfl
                    refine take_ (i := 3) (N := some 50) (v := ?_) (a' := ?_) #[true, true, true, true, true, true, false, false, false, false] rfl rfl (take_ofW HT_.out HW_.out (by kernel_rfl)) (fun _ _ _ h => h) (Or.inl ⟨by rfl, ?_⟩) hHeld ?_ ?_
                    rotate_left
                    · rintro w' ⟨s0, s1, s2⟩
                      go_simp
                      with_reducible rfl
                    rotate_left
                    · simp only [Act.put, List.setIfInBounds_toArray, List.set_cons_zero, List.set_cons_succ, i64_w, i32_w]
                      rfl
                    refine pure_ (i := 6) (N := some 53) (v := ?_) (a' := ?_) #[true, true, true, true, true, true, true, false, false, false] rfl rfl (any_of HT_.out (by kernel_rfl)) (fun _ _ _ h => h) (Or.inl ⟨by rfl, ?_⟩) ?_ ?_
                    rotate_left
                    · intro w'
                      go_simp
                      with_reducible rfl
                    rotate_left
                    · simp only [Act.put, List.setIfInBounds_toArray, List.set_cons_zero, List.set_cons_succ, i64_w, i32_w]
                      rfl
                    refine pure_ (i := 7) (N := some 54) (v := ?_) (a' := ?_) #[true, true, true, true, true, true, true, true, false, false] rfl rfl (any_of HT_.out (by kernel_rfl)) (fun _ _ _ h => h) (Or.inl ⟨by rfl, ?_⟩) ?_ ?_
                    rotate_left
                    · intro w'
                      go_simp
                      with_reducible rfl
                    rotate_left
                    · simp only [Act.put, List.setIfInBounds_toArray, List.set_cons_zero, List.set_cons_succ, i64_w, i32_w]
                      rfl
                    refine one_ (i := 8) (N := some 10) #[true, true, true, true, true, true, true, true, true, false] rfl rfl (one_of HT_.out (by kernel_rfl)) (by decide) (fun K hK => ?_)
                    refine box_step ?hg (N := 10) ?hd (cs := #[.string (⟨#[]⟩ : ByteArray), .int .i64 0]) (t := 24) ?hr ?_; (case hd => rfl); (case hg => rfl); (case hr => first | (go_simp; done) | (go_simp; rfl))
                    intro gb109 hg w71 hbox hb
                    have n0_ := Aside0.mk (Kd.R_below (by (with_reducible repeat (first | apply Kd.R_alloc | apply Kd.R_drewN | apply Kd.R_drew)); exact HO_7.out) hb)
                    have n1_ := Aside0.mk (blk_below (g := gb101) (o := .cells #[.string a0_0, .int .i64 a0_1] 24 (0, 0)) (by (with_reducible repeat (first | refine blk_drewN ?_ _ | refine blk_drew ?_ | refine blk_alloc ?_ _)); exact BK101.out) hb)
                    have n2_ := Aside0.mk (blk_below (g := gb102) (o := .cells #[.string (⟨#[]⟩ : ByteArray), .int .i64 0] 24 (0, 0)) (by (with_reducible repeat (first | refine blk_drewN ?_ _ | refine blk_drew ?_ | refine blk_alloc ?_ _)); exact BK102.out) hb)
                    have n3_ := Aside0.mk (below_step (by repeat (first | (with_reducible first | exact HB.out | apply below_alloc | apply pw_below_drewN | apply below_drew1 | refine below_set ?_ GE101.out | refine below_set ?_ GE102.out) | exact HB.out)) hb)
                    have n4_ := Aside0.mk (hbox)
                    have n5_ := Aside0.mk ((by rw [hg]; exact (below_size (by repeat (first | (with_reducible first | exact HB.out | apply below_alloc | apply pw_below_drewN | apply below_drew1 | refine below_set ?_ GE101.out | refine below_set ?_ GE102.out) | exact HB.out))) : w.heap.size ≤ gb109))
                    have n6_ := Aside0.mk ((by rw [hg]; exact (below_size (by repeat (first | (with_reducible first | exact HB.out | apply below_alloc | apply pw_below_drewN | apply below_drew1 | refine below_set ?_ GE101.out | refine below_set ?_ GE102.out) | exact HB.out))) : w.heap.size ≤ gb109))
                    have n7_ := Aside0.mk ((by rw [hg]; exact Nat.ne_of_lt (blk_lt (g := gb101) (o := .cells #[.string a0_0, .int .i64 a0_1] 24 (0, 0)) (by (with_reducible repeat (first | refine blk_drewN ?_ _ | refine blk_drew ?_ | refine blk_alloc ?_ _)); exact BK101.out)) : gb101 ≠ gb109))
                    have n8_ := Aside0.mk ((by rw [hg]; exact Nat.ne_of_gt (blk_lt (g := gb101) (o := .cells #[.string a0_0, .int .i64 a0_1] 24 (0, 0)) (by (with_reducible repeat (first | refine blk_drewN ?_ _ | refine blk_drew ?_ | refine blk_alloc ?_ _)); exact BK101.out)) : gb109 ≠ gb101))
                    have n9_ := Aside0.mk ((by rw [hg]; exact Nat.ne_of_lt (blk_lt (g := gb102) (o := .cells #[.string (⟨#[]⟩ : ByteArray), .int .i64 0] 24 (0, 0)) (by (with_reducible repeat (first | refine blk_drewN ?_ _ | refine blk_drew ?_ | refine blk_alloc ?_ _)); exact BK102.out)) : gb102 ≠ gb109))
                    have n10_ := Aside0.mk ((by rw [hg]; exact Nat.ne_of_gt (blk_lt (g := gb102) (o := .cells #[.string (⟨#[]⟩ : ByteArray), .int .i64 0] 24 (0, 0)) (by (with_reducible repeat (first | refine blk_drewN ?_ _ | refine blk_drew ?_ | refine blk_alloc ?_ _)); exact BK102.out)) : gb109 ≠ gb102))
                    clear HO_7
                    clear BK101
                    clear BK102
                    clear HB
                    have HO_7 := n0_
                    have BK101 := n1_
                    have BK102 := n2_
                    have HB := n3_
                    have BK109 := n4_
                    have GW109 := n5_
                    have GE109 := n6_
                    have NB101_109 := n7_
                    have NB109_101 := n8_
                    have NB102_109 := n9_
                    have NB109_102 := n10_
                    clear n0_ n1_ n2_ n3_ n4_ n5_ n6_ n7_ n8_ n9_ n10_
                    clear hb hbox hg
                    refine hK.out _ _ ⟨(blk_cell BK101.out 0).trans rfl, (blk_cell BK101.out 1).trans rfl, (by obtain ⟨A_, c_, e_, h1_, h2_⟩ := Kd.R_reads HO_7.out; cases e_; exact h2_)⟩ (fun hHeld => ?_)
                    clear hK K
                    refine norm_ (a' := ?_) ?_ ?_
                    rotate_left
                    · show Act.put _ (some 10) _ = _
                      simp only [Act.put, List.setIfInBounds_toArray, List.set_cons_zero, List.set_cons_succ, i64_w, i32_w]
                      rfl
                    refine one_ (i := 9) (N := none) #[true, true, true, true, true, true, true, true, true, true] rfl rfl (one_of HT_.out (by kernel_rfl)) (by decide) (fun K hK => ?_)
                    have hs73 : w71.cell? ⟨gb109, 0, none⟩ = some (.string (⟨#[]⟩ : ByteArray)) := (blk_cell BK109.out 0).trans rfl
                    have hfs73 := blk_frozen BK109.out 0
                    have hns73_0 := NB101_109.out
                    have hns73_1 := NB102_109.out
                    have hms73_0 := NB109_101.out
                    have hms73_1 := NB109_102.out
                    have hs74 : w71.cell? ⟨gb109, 1, none⟩ = some (.int .i64 0) := (blk_cell BK109.out 1).trans rfl
                    have hfs74 := blk_frozen BK109.out 1
                    have hns74_0 := NB101_109.out
                    have hns74_1 := NB102_109.out
                    have hms74_0 := NB109_101.out
                    have hms74_1 := NB109_102.out
                    refine skip_ (w1 := ?_) (by rfl) rfl ?_ ?_
                    rotate_left
                    · go_simp
                      rfl
                    refine hK.out _ _ ⟨((cell_far (p := ⟨gb109, _, none⟩) NB101_109.out _).trans (((cell_far (p := ⟨gb109, _, none⟩) NB101_109.out _).trans (hHeld.1)))), ((cell_far (p := ⟨gb109, _, none⟩) NB101_109.out _).trans (((cell_far (p := ⟨gb109, _, none⟩) NB101_109.out _).trans (hHeld.2.1)))), (Kd.R_reads' (Kd.R_set (Kd.R_set HO_7.out BK109.out (by decide) _ _) (blk_set BK109.out _ _) (by decide) _ _)).2.2⟩ (fun hHeld => ?_)
                    clear hK K
                    refine done_ (done_of HT_.out (by kernel_rfl)) ?_
                    obtain ⟨Ao75, co75, eo75⟩ := Kd.R_slice HO_7.out
                    cases eo75
                    have hnb76 := NB101_102.out
                    have hnc76 := NB102_101.out
                    have hnb77 := NB101_109.out
                    have hnc77 := NB109_101.out
                    have hcz78_0 : w71.cell? ⟨gb101, 0, none⟩ = some (.string a0_0) := (blk_cell BK101.out 0).trans rfl
                    have hcz78_1 : w71.cell? ⟨gb101, 1, none⟩ = some (.int .i64 a0_1) := (blk_cell BK101.out 1).trans rfl
                    have hfz78_0 := blk_frozen BK101.out 0
                    have hfz78_1 := blk_frozen BK101.out 1
                    have p53 : 0 ≤ (0 : Int) := (by omega)
                    have q53 : 0 < a0_0.size := (by have : (0 : Int) < (a0_0.size : Int) := of_decide_eq_true (by first | (with_reducible assumption) | assumption); omega)
                    have hx53 : ∀ h : 0 < a0_0.size, ((a0_0[0]'h).toNat : Int) = bt a0_0 0 := bt_at a0_0 0
                    clear p53
                    have qi53 : (0 < (a0_0.size : Int)) = True := eq_true (of_decide_eq_true (by first | (with_reducible assumption) | assumption))
                    replace q53 := eq_true q53
                    have hnb79 := NB109_102.out
                    have hnc79 := NB102_109.out
                    have hcz80_0 : w71.cell? ⟨gb109, 0, none⟩ = some (.string (⟨#[]⟩ : ByteArray)) := (blk_cell BK109.out 0).trans rfl
                    have hcz80_1 : w71.cell? ⟨gb109, 1, none⟩ = some (.int .i64 0) := (blk_cell BK109.out 1).trans rfl
                    have hfz80_0 := blk_frozen BK109.out 0
                    have hfz80_1 := blk_frozen BK109.out 1
                    have hcz81_0 : w71.cell? ⟨gb102, 0, none⟩ = some (.string (⟨#[]⟩ : ByteArray)) := (blk_cell BK102.out 0).trans rfl
                    have hcz81_1 : w71.cell? ⟨gb102, 1, none⟩ = some (.int .i64 0) := (blk_cell BK102.out 1).trans rfl
                    have hfz81_0 := blk_frozen BK102.out 0
                    have hfz81_1 := blk_frozen BK102.out 1
                    try go_wp2
                    refine bodyPost_ret (results_cell_row rfl _ _ gb102 24 #[.string (strOfNums x7_1), .int .i64 (Int.tmod a0_1 (wrap64 (a2 + 1)))] (0, 0) _ rfl (by (with_reducible repeat (first | refine blk_drewN ?_ _ | refine blk_drew ?_ | refine blk_alloc ?_ _)); refine blk_put (cs := #[.string (strOfNums x7_1), .int .i64 0]) ?_ 1 _ rfl; (with_reducible repeat (first | refine blk_drewN ?_ _ | refine blk_drew ?_ | refine blk_alloc ?_ _)); refine blk_put (cs := #[.string (⟨#[]⟩ : ByteArray), .int .i64 0]) ?_ 0 _ rfl; (with_reducible repeat (first | refine blk_drewN ?_ _ | refine blk_drew ?_ | refine blk_alloc ?_ _)); refine blk_far ?_ NB102_109.out _; (with_reducible repeat (first | refine blk_drewN ?_ _ | refine blk_drew ?_ | refine blk_alloc ?_ _)); refine blk_far ?_ NB102_109.out _; (with_reducible repeat (first | refine blk_drewN ?_ _ | refine blk_drew ?_ | refine blk_alloc ?_ _)); exact BK102.out) Try.underlying24 rfl (by kernel_rfl)) rfl ?_
                    exact ⟨by first | rfl | (simp [errW_none, errW_some] <;> rfl) | (simp [*, errW_none, errW_some] <;> rfl), by repeat (first | (with_reducible first | exact HB.out | apply below_alloc | apply pw_below_drewN | apply below_drew1 | refine below_set ?_ GE101.out | refine below_set ?_ GE102.out | refine below_set ?_ GE109.out) | exact HB.out)⟩
                · rw [if_neg c52] at H
                  exact absurd H (by simp)

end Go.Proofs.Ythkmgjkajllemaa.Fit0

/- What DecFit computes: the text of a number of at most 60 digits, and the exponent modulo 61. -/
namespace Go.Proofs.Ythkmgjkajllemaa.Fit
open Go.RowKit Go.Proofs.YthkmgjkajllemaaW.PrintWords Go.Proofs.YthkmgjkajllemaaW.PrintLast Go.Proofs.YthkmgjkajllemaaW.PrintMore Go.Proofs.Ythkmgjkajllemaa.Num Go.Proofs.Ythkmgjkajllemaa.Big Go.Proofs.Ythkmgjkajllemaa.Fit0
set_option linter.unusedVariables false
set_option linter.unusedSimpArgs false

/-- One more digit behind a number. -/
theorem decs_snoc (N c : Nat) (hc : c < 10) (h : 0 < N ∨ 0 < c) : (decs N).reverse ++ [((48 + c : Nat) : Int)] = (decs (N * 10 + c)).reverse := by
  rw [decs_pos (show 0 < N * 10 + c by omega), show (N * 10 + c) % 10 = c by omega, show (N * 10 + c) / 10 = N by omega]
  simp
theorem len_lt (N k : Nat) (h : (decs N).length ≤ k) : N < 10 ^ k := by
  induction k generalizing N with
  | zero =>
    rcases Nat.eq_zero_or_pos N with h0 | h0
    · subst h0; decide
    · rw [decs_pos h0] at h; simp at h
  | succ k ih =>
    rcases Nat.eq_zero_or_pos N with h0 | h0
    · subst h0; exact Nat.pow_pos (by decide)
    · rw [decs_pos h0] at h
      have := ih (N / 10) (by simpa using h)
      rw [Nat.pow_succ]
      omega
theorem text_neg (N : Nat) (h : 0 < N) : (⟨#[45]⟩ : ByteArray) ++ strOfNums (decs N).reverse = textZ true N := by
  unfold textZ
  rw [if_neg (by omega), if_pos rfl, List.reverse_append]
  unfold strOfNums
  apply ByteArray.ext
  simp
theorem text_pos (N : Nat) (h : 0 < N) : strOfNums (decs N).reverse = textZ false N := by
  unfold textZ
  rw [if_neg (by omega)]
  simp
theorem strOfNums_size (l : List Int) : (strOfNums l).size = l.length := by
  unfold strOfNums
  simp [ByteArray.size]

theorem fit_end (k : Nat) (s : ByteArray) (e : Int) (i : Int) (N : Nat) (hN : N < 10 ^ 60) (h1 : 0 < N → 0 < s.size) :
    ∃ neg : Bool, (neg = true → 0 < N) ∧ spec_DecFit.j1 (k + 1) 60 60 ((decs N).reverse) i false s e = some (textZ neg N, Int.tmod e 61) := by
  have hw : wrap64 ((60 : Int) + 1) = 61 := by unfold wrap64; decide
  have hl : (decs N).length ≤ 60 := decs_length 60 N hN
  rw [spec_DecFit.j1, if_neg (by decide), hw, if_neg (by decide), List.length_reverse]
  rcases Nat.eq_zero_or_pos N with h0 | h0
  · subst h0
    refine ⟨false, fun h => by simp at h, ?_⟩
    rw [decs_zero]
    rfl
  · have hp : 0 < (decs N).length := by rw [decs_pos h0]; simp
    rw [if_neg (by omega), if_pos (by have := h1 h0; omega)]
    by_cases hm : bt s 0 = 45
    · refine ⟨true, fun _ => h0, ?_⟩
      rw [if_pos hm, if_pos (by rw [strOfNums_size, List.length_reverse]; omega), text_neg N h0]
    · refine ⟨false, fun h => by simp at h, ?_⟩
      rw [if_neg hm, text_pos N h0]

theorem fit_go (s : ByteArray) (e : Int) (hs : s.size < 9223372036854775807) : ∀ (m i N : Nat), s.size - i = m → i ≤ s.size → (decs N).length ≤ 60 → (0 < N → 0 < i) →
    ∃ (M : Nat) (neg : Bool), M < 10 ^ 60 ∧ (neg = true → 0 < M) ∧ spec_DecFit.l0 (2 * m + 2) 60 60 ((decs N).reverse) (i : Int) s e = some (textZ neg M, Int.tmod e 61) := by
  intro m
  induction m with
  | zero =>
    intro i N hm hi hl h0
    have hN := len_lt N 60 hl
    obtain ⟨neg, hneg, hj⟩ := fit_end 0 s e i N hN (fun h => by have := h0 h; omega)
    refine ⟨N, neg, hN, hneg, ?_⟩
    rw [spec_DecFit.l0, if_neg (by omega)]
    exact hj
  | succ m ih =>
    intro i N hm hi hl h0
    have hlt : i < s.size := by omega
    rw [show 2 * (m + 1) + 2 = (2 * m + 2) + 1 + 1 by omega, spec_DecFit.l0, if_pos (by omega)]
    by_cases h60 : (decs N).length < 60
    · have hw : wrap64 ((i : Int) + 1) = ((i + 1 : Nat) : Int) := by
        rw [show ((i : Int) + 1) = ((i + 1 : Nat) : Int) by omega]
        unfold wrap64; omega
      rw [List.length_reverse, show decide (((decs N).length : Int) < 60) = true from decide_eq_true (by omega), spec_DecFit.j1, if_pos rfl, if_pos (by omega), if_pos (by omega), hw]
      have hgo := ih (i + 1) N (by omega) (by omega) hl (fun _ => by omega)
      by_cases hc1 : bt s i ≥ 48
      · rw [if_pos hc1]
        by_cases hc2 : bt s i ≤ 57
        · rw [if_pos hc2, List.length_reverse]
          obtain ⟨c, hc⟩ : ∃ c : Nat, bt s i = ((48 + c : Nat) : Int) := ⟨(bt s i - 48).toNat, by omega⟩
          rw [hc] at hc1 hc2 ⊢
          by_cases hp : 0 < N
          · have hlp : 0 < (decs N).length := by rw [decs_pos hp]; simp
            rw [if_pos (by omega), if_pos (by omega), decs_snoc N c (by omega) (.inl hp)]
            have hl2 : (decs (N * 10 + c)).length ≤ 60 := by
              rw [decs_pos (show 0 < N * 10 + c by omega), show (N * 10 + c) / 10 = N by omega]
              simp; omega
            exact ih (i + 1) (N * 10 + c) (by omega) (by omega) hl2 (fun _ => by omega)
          · obtain rfl : N = 0 := by omega
            rw [decs_zero] at hgo ⊢
            rw [if_neg (by simp)]
            by_cases hz : c = 0
            · subst hz
              rw [if_pos (by omega)]
              exact hgo
            · rw [if_neg (by omega), if_pos (by simp)]
              have := decs_snoc 0 c (by omega) (.inr (by omega))
              rw [decs_zero] at this
              rw [this]
              have hl2 : (decs (0 * 10 + c)).length ≤ 60 := by
                rw [decs_pos (show 0 < 0 * 10 + c by omega), show (0 * 10 + c) / 10 = 0 by omega, decs_zero]
                simp
              exact ih (i + 1) (0 * 10 + c) (by omega) (by omega) hl2 (fun _ => by omega)
        · rw [if_neg hc2]; exact hgo
      · rw [if_neg hc1]; exact hgo
    · have hN := len_lt N 60 hl
      obtain ⟨neg, hneg, hj⟩ := fit_end (2 * m + 2) s e i N hN (fun _ => by omega)
      refine ⟨N, neg, hN, hneg, ?_⟩
      rw [List.length_reverse, show decide (((decs N).length : Int) < 60) = false from decide_eq_false (by omega)]
      exact hj

/-- DecFit. -/
theorem decFit_any (s : ByteArray) (e : Int) (w : World) (hs : s.size < 9223372036854775807) :
    ∃ (N : Nat) (neg : Bool), N < 10 ^ 60 ∧ (neg = true → 0 < N) ∧ ∀ w, Calls Try.prog 19 #[.agg #[.string s, .int .i64 e], .int .i64 60, .int .i64 60] w fun r w' => r = .returned (.agg #[.string (textZ neg N), .int .i64 (Int.tmod e 61)]) ∧ Below w.heap.size w w' := by
  obtain ⟨N, neg, hN, hneg, h⟩ := fit_go s e hs s.size 0 0 (by omega) (by omega) (by rw [decs_zero]; simp) (by omega)
  rw [decs_zero] at h
  exact ⟨N, neg, hN, hneg, fun w => spec_DecFit.calls _ s e 60 60 _ _ w h⟩
end Go.Proofs.Ythkmgjkajllemaa.Fit

/- NatOf of decimal digits is their number. -/
namespace Go.Proofs.Ythkmgjkajllemaa.NatOf
open Go.RowKit Go.Proofs.YthkmgjkajllemaaW.PrintWords Go.Proofs.YthkmgjkajllemaaW.PrintLast Go.Proofs.YthkmgjkajllemaaW.PrintMore Go.Proofs.Ythkmgjkajllemaa.Num Go.Proofs.Ythkmgjkajllemaa.Val Go.Proofs.Ythkmgjkajllemaa.Arith Go.Proofs.Ythkmgjkajllemaa.NatOf0
set_option linter.unusedVariables false
set_option linter.unusedSimpArgs false

/-- A text is the L decimal digits of a number. -/
structure Dg (s : ByteArray) (L N : Nat) : Prop where
  size : s.size = L
  at_ : ∀ i, i < L → bt s (i : Int) = ((48 + N / 10 ^ (L - 1 - i) % 10 : Nat) : Int)
  lt : N < 10 ^ L

theorem digit_step (N L i st : Nat) (hi : i < L) (hst : st ≤ i) : N / 10 ^ (L - (i + 1)) % 10 ^ (i + 1 - st) = 10 * (N / 10 ^ (L - i) % 10 ^ (i - st)) + N / 10 ^ (L - 1 - i) % 10 := by
  have e1 : L - (i + 1) = L - 1 - i := by omega
  have e2 : L - i = (L - 1 - i) + 1 := by omega
  have e3 : i + 1 - st = (i - st) + 1 := by omega
  rw [e1, e2, e3, Nat.pow_succ 10 (L - 1 - i), ← Nat.div_div_eq_div_mul, Nat.pow_succ, Nat.mul_comm (10 ^ (i - st)) 10, Nat.mod_mul]
  omega

theorem natOf_in (s : ByteArray) (L N : Nat) (h : Dg s L N) (hL : L < 1000) (K : Nat) (acc : List Int) (hacc : acc.length < 1000) (e st : Nat) (he : e ≤ L) (hst : e ≤ st + 9) :
    ∀ m i, e - i = m → st ≤ i → i ≤ e → spec_NatOf.l1 (m + 1 + K) s acc (e : Int) ((N / 10 ^ (L - i) % 10 ^ (i - st) : Nat) : Int) (i : Int) = spec_NatOf.l0 (K) s (acc ++ [((N / 10 ^ (L - e) % 10 ^ (e - st) : Nat) : Int)]) (wrap64 ((e : Int) - 9)) := by
  intro m
  induction m with
  | zero =>
    intro i hm hsi hie
    obtain rfl : i = e := by omega
    rw [show 0 + 1 + K = K + 1 by omega, spec_NatOf.l1, if_neg (by omega), if_pos (by omega)]
  | succ m ih =>
    intro i hm hsi hie
    have hiL : i < L := by omega
    have hie' : i < e := by omega
    have hw : wrap64 ((i : Int) + 1) = ((i + 1 : Nat) : Int) := by unfold wrap64; omega
    have hgo := ih (i + 1) (by omega) (by omega) (by omega)
    clear ih
    have hb := h.at_ i hiL
    have hd := digit_step N L i st hiL hsi
    have hsz := h.size
    have hlt : N / 10 ^ (L - i) % 10 ^ (i - st) < 100000000 := by
      refine Nat.lt_of_lt_of_le (Nat.mod_lt _ (Nat.pow_pos (by decide))) ?_
      exact Nat.pow_le_pow_right (show 0 < 10 by decide) (show i - st ≤ 8 by omega)
    have h1 : (i : Int) < (e : Int) := Int.ofNat_lt.2 hie'
    have h2 : (0 : Int) ≤ (i : Int) := Int.natCast_nonneg i
    have h3 : (i : Int) < (s.size : Int) := by rw [hsz]; exact Int.ofNat_lt.2 hiL
    have hdl : N / 10 ^ (L - 1 - i) % 10 < 10 := Nat.mod_lt _ (by decide)
    generalize N / 10 ^ (L - 1 - i) % 10 = c at hb hd hdl
    have h4 : ¬ ((48 + c : Nat) : Int) < 48 := by omega
    have h5 : ¬ ((48 + c : Nat) : Int) > 57 := by omega
    rw [show m + 1 + 1 + K = (m + 1 + K) + 1 by omega, spec_NatOf.l1, if_pos h1, if_pos h2, if_pos h3, hb, if_neg h4, if_neg h5, hw, ← hgo, hd]
    congr 1
    clear hgo hb h4 h5 hd
    generalize N / 10 ^ (L - i) % 10 ^ (i - st) = q at *
    omega

theorem trim_limbs (N : Nat) : trim (limbs N) = limbs N := by
  unfold trim
  rw [val_limbs]
  rfl

theorem natOf_end (s : ByteArray) (N : Nat) (x5 : Int) (hx : x5 ≤ 0) (hl : (limbs N).length < 1000) (hs : (s.toList != ([] : List UInt8)) = true) :
    spec_NatOf.l0 2000 s (limbs N) x5 = some (limbs N, true) := by
  rw [show 2000 = 1999 + 1 from rfl, spec_NatOf.l0, if_neg (by omega)]
  unfold spec_natTrim.f
  rw [natTrim_go' _ (limbs N) 1999 rfl (digs_limbs N) (by omega) (by omega), trim_limbs]
  show some (limbs N, (s.toList != ([] : List UInt8))) = _
  rw [hs]

theorem natOf_out (s : ByteArray) (L N : Nat) (h : Dg s L N) (hL : L < 1000) (hlow : 10 ^ (L - 1) ≤ N) (hl : (limbs N).length < 1000) (hs : (s.toList != ([] : List UInt8)) = true) :
    ∀ n j acc, L ≤ 9 * (j + n) → acc.length ≤ j → acc ++ limbs (N / 10 ^ (9 * j)) = limbs N → ∃ k, spec_NatOf.l0 k s acc ((L : Int) - 9 * (j : Int)) = some (limbs N, true) := by
  intro n
  induction n with
  | zero =>
    intro j acc hn hj hacc
    have h0 : N / 10 ^ (9 * j) = 0 := Nat.div_eq_of_lt (Nat.lt_of_lt_of_le h.lt (Nat.pow_le_pow_right (by decide) (by omega)))
    rw [h0, limbs_zero, List.append_nil] at hacc
    subst hacc
    exact ⟨2000, natOf_end s N _ (by omega) hl hs⟩
  | succ n ih =>
    intro j acc hn hj hacc
    by_cases hc : L ≤ 9 * j
    · have h0 : N / 10 ^ (9 * j) = 0 := Nat.div_eq_of_lt (Nat.lt_of_lt_of_le h.lt (Nat.pow_le_pow_right (by decide) (by omega)))
      rw [h0, limbs_zero, List.append_nil] at hacc
      subst hacc
      exact ⟨2000, natOf_end s N _ (by omega) hl hs⟩
    · obtain ⟨e, he⟩ : ∃ e, e = L - 9 * j := ⟨_, rfl⟩
      have hLe : L - e = 9 * j := by omega
      have hX : 0 < N / 10 ^ (9 * j) := by
        refine Nat.div_pos (Nat.le_trans (Nat.pow_le_pow_right (by decide) (show 9 * j ≤ L - 1 by omega)) hlow) (Nat.pow_pos (by decide))
      have hXl : N / 10 ^ (9 * j) < 10 ^ e := by
        rw [Nat.div_lt_iff_lt_mul (Nat.pow_pos (by decide)), ← Nat.pow_add, show e + 9 * j = L by omega]
        exact h.lt
      have hch : N / 10 ^ (9 * j) % 10 ^ (e - (e - 9)) = N / 10 ^ (9 * j) % 1000000000 := by
        by_cases h9 : 9 ≤ e
        · rw [show e - (e - 9) = 9 by omega]
        · rw [show e - (e - 9) = e by omega, Nat.mod_eq_of_lt hXl]
          have : 10 ^ e ≤ 10 ^ 9 := Nat.pow_le_pow_right (by decide) (by omega)
          exact (Nat.mod_eq_of_lt (Nat.lt_of_lt_of_le hXl this)).symm
      have hnx : N / 10 ^ (9 * (j + 1)) = N / 10 ^ (9 * j) / 1000000000 := by
        rw [show 9 * (j + 1) = 9 * j + 9 by omega, Nat.pow_add, ← Nat.div_div_eq_div_mul]
      rw [limbs_pos hX, ← hnx] at hacc
      obtain ⟨K, hK⟩ := ih (j + 1) (acc ++ [((N / 10 ^ (9 * j) % 1000000000 : Nat) : Int)]) (by omega) (by simp; omega) (by rw [List.append_assoc]; exact hacc)
      have hin := natOf_in s L N h hL K acc (by omega) e (e - 9) (by omega) (by omega) (e - (e - 9)) (e - 9) rfl (Nat.le_refl _) (by omega)
      rw [hLe, hch, Nat.sub_self, Nat.pow_zero, Nat.mod_one] at hin
      have hw : wrap64 ((e : Int) - 9) = (e : Int) - 9 := by unfold wrap64; omega
      have hmx : mx 0 ((e : Int) - 9) = ((e - 9 : Nat) : Int) := by unfold mx; split <;> omega
      refine ⟨(e - (e - 9) + 1 + K) + 1, ?_⟩
      rw [show (L : Int) - 9 * (j : Int) = (e : Int) by omega, spec_NatOf.l0, if_pos (by omega), hw, hmx]
      refine hin.trans ?_
      rw [hw, show (e : Int) - 9 = (L : Int) - 9 * ((j + 1 : Nat) : Int) by omega]
      exact hK

theorem loop_len (s : ByteArray) : ∀ n i (r : List UInt8), s.size - i = n → r.length ≤ (ByteArray.toList.loop s i r).length := by
  intro n
  induction n with
  | zero =>
    intro i r h
    rw [ByteArray.toList.loop, if_neg (by omega)]
    simp
  | succ n ih =>
    intro i r h
    rw [ByteArray.toList.loop, if_pos (by omega)]
    have := ih (i + 1) (s.get! i :: r) (by omega)
    simp at this
    omega
theorem toList_ne (s : ByteArray) (h : 0 < s.size) : (s.toList != ([] : List UInt8)) = true := by
  have h1 : s.toList ≠ [] := by
    intro h2
    rw [ByteArray.toList, ByteArray.toList.loop, if_pos h] at h2
    have h3 := loop_len s _ (0 + 1) [s.get! 0] rfl
    rw [h2] at h3
    simp at h3
  cases hs : s.toList with
  | nil => exact absurd hs h1
  | cons a l => rfl

/-- NatOf. -/
theorem natOf_any (s : ByteArray) (L N : Nat) (h : Dg s L N) (hL : L < 1000) (hlow : 10 ^ (L - 1) ≤ N) (hp : 0 < L) (hl : (limbs N).length < 1000) (w : World) :
    Calls Try.prog 53 #[.string s] w fun e w' => ∃ v, e = .returned (.tuple #[v, .bool true]) ∧ Kd.V (Kd.int .u32) 54 w' w.heap.size (fun k_ => w.heap.size ≤ k_) v (limbs N) ∧ Below w.heap.size w w' := by
  obtain ⟨k, hk⟩ := natOf_out s L N h hL hlow hl (toList_ne s (by rw [h.size]; exact hp)) L 0 [] (by omega) (by simp) (by simp)
  refine spec_NatOf.calls k s (limbs N) true w ?_
  unfold spec_NatOf.f
  rw [h.size]
  simpa using hk
end Go.Proofs.Ythkmgjkajllemaa.NatOf

/- The text of a number is its digits. -/
namespace Go.Proofs.Ythkmgjkajllemaa.NatOf
open Go.RowKit Go.Proofs.YthkmgjkajllemaaW.PrintWords Go.Proofs.YthkmgjkajllemaaW.PrintLast Go.Proofs.YthkmgjkajllemaaW.PrintMore Go.Proofs.Ythkmgjkajllemaa.Num Go.Proofs.Ythkmgjkajllemaa.Big Go.Proofs.Ythkmgjkajllemaa.Fit
set_option linter.unusedVariables false

theorem bt_strOfNums (l : List Int) (i : Nat) (hi : i < l.length) (h : ∀ x ∈ l, 0 ≤ x ∧ x < 256) : bt (strOfNums l) (i : Int) = l.getD i 0 := by
  unfold bt
  have hs := strOfNums_size l
  have hx := h (l.getD i 0) (by rw [List.getD_eq_getElem?_getD, List.getElem?_eq_getElem hi]; simp)
  rw [dif_pos (by rw [hs]; simpa using hi)]
  rw [List.getD_eq_getElem?_getD, List.getElem?_eq_getElem hi, Option.getD_some] at hx ⊢
  show (((List.map (fun n => UInt8.ofNat n.toNat) l).toArray[i]'(by simpa using hi)).toNat : Int) = l[i]
  rw [List.getElem_toArray, List.getElem_map, UInt8.toNat_ofNat']
  omega

theorem decs_low (N : Nat) (h : 0 < N) : 10 ^ ((decs N).length - 1) ≤ N := by
  induction N using Nat.strongRecOn with
  | ind N ih =>
    rw [decs_pos h]
    rcases Nat.eq_zero_or_pos (N / 10) with h0 | h0
    · rw [h0, decs_zero]; simp; omega
    · have := ih (N / 10) (by omega) h0
      have hp : 0 < (decs (N / 10)).length := by rw [decs_pos h0]; simp
      rw [List.length_cons, Nat.add_sub_cancel, show (decs (N / 10)).length = ((decs (N / 10)).length - 1) + 1 by omega, Nat.pow_succ]
      omega

theorem dg_text (N : Nat) (h : 0 < N) : Dg (strOfNums (decs N).reverse) (decs N).length N := by
  refine ⟨by rw [strOfNums_size, List.length_reverse], fun i hi => ?_, len_lt N _ (Nat.le_refl _)⟩
  rw [bt_strOfNums _ i (by rw [List.length_reverse]; exact hi) (fun x hx => by
    have := decs_bytes N x (by simpa using hx)
    omega)]
  rw [List.getD_eq_getElem?_getD, List.getElem?_reverse hi, ← List.getD_eq_getElem?_getD]
  exact decs_at N _ (by omega)
end Go.Proofs.Ythkmgjkajllemaa.NatOf

/- NatOf of "0". -/
namespace Go.Proofs.Ythkmgjkajllemaa.NatOf
open Go.RowKit Go.Proofs.YthkmgjkajllemaaW.PrintWords Go.Proofs.YthkmgjkajllemaaW.PrintLast Go.Proofs.YthkmgjkajllemaaW.PrintMore Go.Proofs.Ythkmgjkajllemaa.Num Go.Proofs.Ythkmgjkajllemaa.NatOf0
set_option linter.unusedVariables false

theorem natOf_zero (w : World) :
    Calls Try.prog 53 #[.string ⟨#[48]⟩] w fun e w' => ∃ v, e = .returned (.tuple #[v, .bool true]) ∧ Kd.V (Kd.int .u32) 54 w' w.heap.size (fun k_ => w.heap.size ≤ k_) v (limbs 0) ∧ Below w.heap.size w w' := by
  refine spec_NatOf.calls 10 ⟨#[48]⟩ (limbs 0) true w ?_
  rw [limbs_zero]
  decide +kernel
end Go.Proofs.Ythkmgjkajllemaa.NatOf

/- The text of a number with a sign, as what it is read as. -/
namespace Go.Proofs.Ythkmgjkajllemaa.NatOf
open Go.RowKit Go.Proofs.YthkmgjkajllemaaW.PrintWords Go.Proofs.YthkmgjkajllemaaW.PrintLast Go.Proofs.YthkmgjkajllemaaW.PrintMore Go.Proofs.Ythkmgjkajllemaa.Num Go.Proofs.Ythkmgjkajllemaa.Big Go.Proofs.Ythkmgjkajllemaa.Fit
set_option linter.unusedVariables false

theorem drop_one (t : ByteArray) : ((⟨#[45]⟩ : ByteArray) ++ t).extract 1 ((⟨#[45]⟩ : ByteArray) ++ t).size = t := by
  have h : ((⟨#[45]⟩ : ByteArray)).size = 1 := rfl
  have h2 := ByteArray.extract_append_size_add (a := (⟨#[45]⟩ : ByteArray)) (b := t) (i := 0) (j := t.size)
  rw [h] at h2
  rw [ByteArray.size_append, h]
  simpa using h2
theorem textZ_tail (N : Nat) (h : 0 < N) : (textZ true N).extract 1 (textZ true N).size = strOfNums (decs N).reverse := by
  rw [← text_neg N h, drop_one]
theorem textZ_head (N : Nat) (h : 0 < N) : bt (textZ true N) 0 = 45 := by
  rw [← text_neg N h]
  unfold bt
  rw [dif_pos (by show 0 < ByteArray.size _; rw [ByteArray.size_append]; show 0 < 1 + _; omega)]
  rfl
theorem text_head (N : Nat) (h : 0 < N) : 48 ≤ bt (strOfNums (decs N).reverse) 0 ∧ bt (strOfNums (decs N).reverse) 0 ≤ 57 := by
  have hl : 0 < (decs N).length := by rw [decs_pos h]; simp
  have := (dg_text N h).at_ 0 hl
  rw [show ((0 : Nat) : Int) = 0 from rfl] at this
  rw [this]
  omega
end Go.Proofs.Ythkmgjkajllemaa.NatOf
