/- The law FnFixNew answers true for every value and scale, where the package's errors lie in memory. -/
import Derived.Test.YthkmgjkajllemaaDoorMake
import Derived.Test.YthkmgjkajllemaaDoorNat
import Derived.Test.YthkmgjkajllemaaDoorFint
import Derived.Test.YthkmgjkajllemaaDoorPFnFixNewx1
import Derived.Deep.RegionWith
namespace Go.Proofs.YthkmgjkajllemaaDoor.FixLike
open Go.RowKit Go.Proofs.YthkmgjkajllemaaDoorW.PrintWords Go.Proofs.YthkmgjkajllemaaDoor.Num Go.Proofs.YthkmgjkajllemaaDoor.Str Go.Proofs.YthkmgjkajllemaaDoor.Nats Go.Proofs.YthkmgjkajllemaaDoor.Make
set_option linter.unusedVariables false
set_option linter.unusedSimpArgs false
attribute [local go_sem high] PFnFixNew.eqA32

/-- The limbs of a value. -/
theorem wholeOf_any (v : Int) (w : World) (h1 : -9223372036854775808 ≤ v) (h2 : v ≤ 9223372036854775807) :
    Calls Tryd.prog 19 #[.int .i64 v] w fun e w' => ∃ u, e = .returned (.agg #[.bool (decide (v < 0)), u]) ∧ IsNew w' w.heap.size u v.natAbs ∧ Below w.heap.size w w' := by
  have HN : Hid (∀ W, Calls Tryd.prog 11 #[.int .u64 (v.natAbs : Nat)] W fun e w' => ∃ u, e = .returned u ∧ IsNew w' W.heap.size u v.natAbs ∧ Below W.heap.size W w') := fun W => natFrom_new v.natAbs W (by omega)
  by_cases h0 : v < 0
  · have hd : decide (v < 0) = true := decide_eq_true h0
    rw [hd]
    have hv1 : v + 1 ≤ 0 := by omega
    have hv3 : 0 ≤ -(v + 1) := by omega
    have HV := Lib.hid (show -(v + 1) + 1 = ((v.natAbs : Nat) : Int) by omega)
    generalize v.natAbs = n at HN HV ⊢
    clear h0
    go_enter Tryd.func19, Tryd.ntmps19
    go_wp2_with fail
    rw [HV.out]
    refine (HN.out _).mono ?_
    rintro e w1 ⟨u, rfl, hn, hb⟩
    obtain ⟨A, c, rfl⟩ := hn.slice
    obtain ⟨⟨c0, c1, f0, f1, hz⟩, hb1⟩ := made2 hb
    have HB := Lib.hid hb1
    have HI := Lib.hid hn
    clear hb hb1 hn
    go_wp2
    exact bodyPost_ret (v := .agg #[.bool true, .slice A (limbs n).length c]) (by simp [results, Tryd.results19, go_sem, c0, c1, f0, f1, hz]) rfl ⟨_, rfl, ((HI.out.set (by simp) _).set (by simp) _).lower (by simp), (HB.out.setCell (Nat.le_refl _) _).setCell (Nat.le_refl _) _⟩
  · have hd : decide (v < 0) = false := decide_eq_false h0
    rw [hd]
    obtain ⟨n, rfl⟩ := Int.eq_ofNat_of_zero_le (show 0 ≤ v by omega)
    rw [show ((n : Int).natAbs) = n by omega] at HN ⊢
    clear h0
    go_enter Tryd.func19, Tryd.ntmps19
    go_wp2_with fail
    refine (HN.out _).mono ?_
    rintro e w1 ⟨u, rfl, hn, hb⟩
    obtain ⟨A, c, rfl⟩ := hn.slice
    obtain ⟨⟨c0, c1, f0, f1, hz⟩, hb1⟩ := made2 hb
    have HB := Lib.hid hb1
    have HI := Lib.hid hn
    clear hb hb1 hn
    go_wp2
    exact bodyPost_ret (v := .agg #[.bool false, .slice A (limbs n).length c]) (by simp [results, Tryd.results19, go_sem, c0, c1, f0, f1, hz]) rfl ⟨_, rfl, ((HI.out.set (by simp) _).set (by simp) _).lower (by simp), (HB.out.setCell (Nat.le_refl _) _).setCell (Nat.le_refl _) _⟩

set_option maxHeartbeats 1000000 in
/-- The parts of a number as it is written. -/
theorem fixOf_any (neg : Bool) (u : Value) (n s : Nat) (w : World) (hu : IsNat w u n) (hn : n ≤ 9999999999999999999) (hs : s ≤ 19) :
    Calls Tryd.prog 46 #[.agg #[.bool neg, u, .int .i64 (-(s : Int))]] w fun e w' => e = .returned (.tuple #[.agg #[.bool neg, .int .u64 n, .int .i64 s], .bool true]) ∧ Below w.heap.size w w' := by
  have hl3 : (limbs n).length ≤ 3 := limbs_length 3 n (by omega)
  have hdg : (decs n).length ≤ 19 := decs_length 19 n (by omega)
  have HD := Aside0.mk (natDigits_any n)
  have HN := Aside0.mk hn
  obtain ⟨A, c, rfl, hc, hr⟩ := hu
  have HU : Aside0 (IsNat w (.slice A (limbs n).length c) n) := ⟨⟨A, c, rfl, hc, hr⟩⟩
  have HR := Aside0.mk hr
  clear hr hn
  generalize hm : (decs n).length = m at hdg HD
  clear hm
  have g0 : decide ((0 : Int) < -(s : Int)) = false := decide_eq_false (by omega)
  have g1 : decide (-(s : Int) < -19) = false := decide_eq_false (by omega)
  have g2 : decide ((19 : Int) < m) = false := decide_eq_false (by omega)
  go_enter Tryd.func46, Tryd.ntmps46
  go_wp2_with (first | (go_at_call 13; refine (HD.out _ _ (HU.out.below (below_at (below_at (Below.refl _ _) _) _)) (by omega)).mono ?_; rintro e w1 ⟨rfl, hb⟩; have hb1 := below_one _ hb; have H2 := (C3.new w (.bool neg) (.slice A (limbs n).length c) (.int .i64 (-(s : Int))) 40).below hb1; have H3 := Lib.hid (made3 hb).1; have HB := Lib.hid (below_one _ hb1); obtain ⟨c0, c1, c2, f0, f1, f2, hz⟩ := H2; clear hb hb1))
  go_loop [4, 5] (fun v4 v5 => ∃ j : Nat, j ≤ (limbs n).length ∧ v5 = .int .i64 ((j : Int) - 1) ∧ v4 = .int .u64 (rest n j)) (fun _ v5 => (intOf v5 + 1).toNat)
  case atStart => exact ⟨(limbs n).length, Nat.le_refl _, rfl, by
    have : rest n (limbs n).length = 0 := by
      rcases Nat.eq_zero_or_pos (rest n (limbs n).length) with h | h
      · exact h
      · exact absurd ((rest_pos n _).2 h) (Nat.lt_irrefl _)
    rw [this]; rfl⟩
  case round =>
    obtain ⟨j, hj, rfl, rfl⟩ := hrel
    cases j with
    | succ j =>
      obtain ⟨hx, hpos⟩ := limbs_at n j (by omega)
      obtain ⟨ad, e0, hc0⟩ := Kd.at_int HR.out (j : Int) (by omega) (by omega)
      have hc1 := (HB.out.cell (World.block_lt_of_cell? w _ hc0)).trans hc0
      unfold rd at hc1
      rw [Int.toNat_natCast, hx] at hc1
      subst e0
      have hr1 := rest_succ n j
      have hrn : rest n j ≤ n := Nat.div_le_self _ _
      have hnn := HN.out
      obtain ⟨x, hx2⟩ : ∃ x, rest n j % 1000000000 = x := ⟨_, rfl⟩
      obtain ⟨q, hq2⟩ : ∃ q, rest n (j + 1) = q := ⟨_, rfl⟩
      rw [hx2] at hc1
      rw [hq2] at hr1 ⊢
      have hb1 : x < 1000000000 := by omega
      have hb2 : q ≤ 9999999999 := by omega
      have HV := Lib.hid (show (q : Int) * 1000000000 + x = (rest n j : Nat) by omega)
      have hv : ((j + 1 : Nat) : Int) - 1 = j := by omega
      rw [hv]
      clear hv hx hpos hc0 hr1 hrn hnn hx2 hq2
      go_wp2
      go_round
      case rel => exact ⟨j, by omega, rfl, by rw [HV.out]⟩
      case measure => simp [intOf]
    | zero =>
      have hv : ((0 : Nat) : Int) - 1 = -1 := rfl
      rw [rest_zero, hv]
      clear hv
      obtain ⟨d0, d1, d2, e0, e1, e2, hz2⟩ := H3.out
      rw [show (w.alloc (.cells #[.bool neg, .slice A (limbs n).length c, .int .i64 (-(s : Int))] 40)).heap.size = w.heap.size + 1 by simp] at d0 d1 d2 e0 e1 e2 hz2
      go_wp2
      exact bodyPost_ret (v := .tuple #[.agg #[.bool neg, .int .u64 n, .int .i64 s], .bool true]) (by simp [results, Tryd.results46, go_sem, d0, d1, d2, e0, e1, e2, hz2]) rfl ⟨rfl, ((HB.out.setCell (by simp) _).setCell (by simp) _).setCell (by simp) _⟩

/-- A decimal that is a number as it is written. -/
theorem fixLike_any (b : Bool) (m k : Nat) (neg : Bool) (u : Value) (n s : Nat) (w : World) (hu : IsNat w u n) (hn : n ≤ 9999999999999999999) (hs : s ≤ 19) :
    Calls Tryd.prog 18 #[.agg #[.bool b, .int .u64 m, .int .i64 k], .agg #[.bool neg, u, .int .i64 (-(s : Int))]] w fun e w' =>
      e = .returned (.bool ((b == neg) && ((m : Int) == n && ((k : Int) == s)))) ∧ Below w.heap.size w w' := by
  have HF := Lib.hid (fun W hW => fixOf_any neg u n s W hW hn hs)
  have HU : Hid (∀ o1 o2, IsNat ((w.alloc o1).alloc o2) u n) := fun o1 o2 => hu.below (below_at (below_at (Below.refl _ _) _) _)
  obtain ⟨A, c, rfl, hc, hr⟩ := hu
  clear hr hn
  go_enter Tryd.func18, Tryd.ntmps18
  go_wp2_with (first | (go_at_call 46; refine (HF.out _ (HU.out _ _)).mono ?_; rintro e w1 ⟨rfl, hb⟩; have hb1 := below_one _ hb; have H2 := (C3.new w (.bool b) (.int .u64 m) (.int .i64 k) 32).below hb1; have HB := Lib.hid (below_one _ hb1); obtain ⟨c0, c1, c2, f0, f1, f2, hz⟩ := H2; clear hb hb1))
  go_ret
  exact ⟨rfl, below_at HB.out _⟩

/-- Below, closed to the walk. -/
def Bel (w w' : World) : Prop := Below w.heap.size w w'
theorem Bel.by_ {w w1 w2 : World} (h : Bel w w1) (k : Below w1.heap.size w1 w2) : Bel w w2 := below_by h k
theorem Bel.drew {w w1 : World} (h : Bel w w1) : Bel w w1.drew := below_drew h

/-- What is held of a decimal in memory is held behind a call. -/
theorem held_call {w w1 w2 : World} {g : Nat} {a b c : Value} (h : w1.cell? ⟨g, 0, none⟩ = some a ∧ w1.cell? ⟨g, 1, none⟩ = some b ∧ w1.cell? ⟨g, 2, none⟩ = some c ∧ Bel w w1) (hb : Below w1.heap.size w1 w2) :
    w2.cell? ⟨g, 0, none⟩ = some a ∧ w2.cell? ⟨g, 1, none⟩ = some b ∧ w2.cell? ⟨g, 2, none⟩ = some c ∧ Bel w w2 :=
  ⟨pw_cell_below hb h.1, pw_cell_below hb h.2.1, pw_cell_below hb h.2.2.1, h.2.2.2.by_ hb⟩

set_option maxHeartbeats 600000 in
set_option maxRecDepth 100000 in
theorem law_ok (v : Int) (s : Nat) (w : World) (hs : s ≤ 19) (h1 : -9223372036854775808 ≤ v) (h2 : v ≤ 9223372036854775807) :
    Calls Tryd.prog 4 #[.int .i64 v, .int .i64 s] w fun e w' => e = .returned (.bool true) ∧ Below w.heap.size w w' := by
  have HF := Lib.hid (fixNew_ok v s w hs h1 h2)
  have HW := Lib.hid (fun W => wholeOf_any v W h1 h2)
  have HL := Lib.hid (fun b u W hW => fixLike_any b v.natAbs s b u v.natAbs s W hW (by omega) hs)
  have hv1 : v.natAbs ≤ 9223372036854775808 := by omega
  generalize decide (v < 0) = b at HF HW
  generalize v.natAbs = n at HF HW HL hv1
  simp only [BEq.rfl, Bool.and_self] at HL
  have g0 : decide ((s : Int) < 0) = false := decide_eq_false (by omega)
  have g1 : decide ((19 : Int) < s) = false := decide_eq_false (by omega)
  have hw : IntKind.i64.wrap (-(s : Int)) = -(s : Int) := IntWalk.i64_in _ (by omega)
  go_enter Tryd.func4, Tryd.ntmps4
  go_wp2_with (first | (go_at_call 17; refine HF.out.mono ?_; rintro e w1 ⟨rfl, hb⟩; have HB : Bel w w1 := hb; clear hb))
  go_region_with (first | (go_at_call 19; refine (HW.out _).mono ?_; rintro e w2 ⟨u, rfl, hn, hb⟩; obtain ⟨A, c, rfl⟩ := hn.slice; have HI := Lib.hid hn; have HB2 := Bel.by_ (Bel.drew (HB.by_ (below_at (Below.refl _ _) (.cells #[.bool b, .int .u64 n, .int .i64 s] 32)))) hb; obtain ⟨k0, k1, k2, _, _, _, hz⟩ := (((C3.new w1 (.bool b) (.int .u64 n) (.int .i64 s) 32).below (below_drew (Below.refl _ _))).below hb); clear hn hb) | (go_at_call 18; refine (HL.out _ _ _ HI.out.isNat).mono ?_; rintro e w3 ⟨rfl, hb⟩; have HB3 := Bel.by_ HB2 hb; clear hb))
  all_goals (go_wp2; go_ret; exact ⟨rfl, HB3⟩)

set_option maxHeartbeats 600000 in
theorem law_bad (v s : Int) (w : World) (hs : s < 0 ∨ 19 < s) (h1 : -9223372036854775808 ≤ v) (h2 : v ≤ 9223372036854775807) (he : ErrAt w) :
    Calls Tryd.prog 4 #[.int .i64 v, .int .i64 s] w fun e w' => e = .returned (.bool true) ∧ Below w.heap.size w w' := by
  have HF := Lib.hid (fixNew_bad v s w hs h1 h2 he)
  clear he
  by_cases h0 : s < 0
  · have g0 : decide (s < 0) = true := decide_eq_true h0
    clear h0 hs
    go_enter Tryd.func4, Tryd.ntmps4
    go_wp2_with (first | (go_at_call 17; refine HF.out.mono ?_; rintro e w1 ⟨rfl, hb⟩; have HB : Bel w w1 := hb; clear hb))
    go_ret
    exact ⟨rfl, below_at HB _⟩
  · have g0 : decide (s < 0) = false := decide_eq_false h0
    have g1 : decide (19 < s) = true := decide_eq_true (by omega)
    clear h0 hs
    go_enter Tryd.func4, Tryd.ntmps4
    go_wp2_with (first | (go_at_call 17; refine HF.out.mono ?_; rintro e w1 ⟨rfl, hb⟩; have HB : Bel w w1 := hb; clear hb))
    go_ret
    exact ⟨rfl, below_at HB _⟩

/-- The law, for every value and scale. -/
theorem law_any (v s : Int) (w : World) (h1 : -9223372036854775808 ≤ v) (h2 : v ≤ 9223372036854775807) (he : ErrAt w) :
    Calls Tryd.prog 4 #[.int .i64 v, .int .i64 s] w fun e w' => e = .returned (.bool true) ∧ Below w.heap.size w w' := by
  by_cases hs : s < 0 ∨ 19 < s
  · exact law_bad v s w hs h1 h2 he
  · obtain ⟨n, rfl⟩ := Int.eq_ofNat_of_zero_le (show 0 ≤ s by omega)
    exact law_ok v n w (by omega) h1 h2
end Go.Proofs.YthkmgjkajllemaaDoor.FixLike
