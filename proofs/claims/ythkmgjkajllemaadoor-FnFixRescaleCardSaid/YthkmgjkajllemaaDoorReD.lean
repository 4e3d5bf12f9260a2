/- Lemmas and contracts of functions for the theorem of YthkmgjkajllemaaDoorReE. -/
import Derived.Test.YthkmgjkajllemaaDoorReC
import Derived.Deep.Cut
import Derived.Deep.CutRange
import Derived.Deep.LoopGhost

/- Decimal.Round of govalues. -/
namespace Go.Proofs.YthkmgjkajllemaaDoor.Spec
open Go.RowKit Go.Proofs.YthkmgjkajllemaaDoorW.PrintWords Go.Proofs.YthkmgjkajllemaaDoorW.PrintMore Go.Proofs.YthkmgjkajllemaaDoor.Num Go.Proofs.YthkmgjkajllemaaDoor.Arith Go.Proofs.YthkmgjkajllemaaDoor.Make Go.Proofs.YthkmgjkajllemaaDoor.Fint
attribute [local go_sem] max2_int min2_int max_two min_two max_three min_three
set_option linter.unusedVariables false
set_option linter.unusedSimpArgs false

set_option maxHeartbeats 1000000 in
theorem round95_stay_neg (b : Bool) (n s : Nat) (w : World) (hs : s ≤ 19) (z : Int) (hz0 : z < 0) (hz1 : z ≥ -9223372036854775808) (h0 : s = 0) :
    Calls Tryd.prog 95 #[.agg #[.bool b, .int .i8 s, .int .u64 n], .int .i64 z] w fun e w' => e = .returned (.agg #[.bool b, .int .i8 s, .int .u64 n]) ∧ Below w.heap.size w w' := by
  have HC := Lib.hid (fun W => scale_any b s n W hs)
  have HS : Hid (St w ((w.alloc (.cells #[.bool b, .int .i8 s, .int .u64 n] 74)).alloc (.cells #[.bool false, .int .i8 0, .int .u64 0] 74))
      [(w.heap.size + 1, 0, .bool false), (w.heap.size + 1, 1, .int .i8 0), (w.heap.size + 1, 2, .int .u64 0), (w.heap.size, 0, .bool b), (w.heap.size, 1, .int .i8 s), (w.heap.size, 2, .int .u64 n)] (w.heap.size + 1) 3) :=
    ⟨Cells.box3 (Cells.box3 (Cells.nil _) rfl _ _ _ _) (by simp) _ _ _ _, fun o _ => free_box (by simp) _ _ _, by simp, ((Below.refl _ _).alloc (Nat.le_refl _) _).alloc (by simp) _⟩
  have hne : w.heap.size + 1 ≠ w.heap.size := by omega
  subst h0
  rw [show ((0 : Nat) : Int) = 0 from rfl] at HC HS ⊢
  clear hs
  go_enter Tryd.func95, Tryd.ntmps95
  go_wp2_with (first | (go_at_call 83; go_must (refine (HC.out _).mono ?_); rintro e w2 ⟨rfl, hb⟩; have HS2 := Lib.hid (HS.out.call hb); obtain ⟨d0, d1, d2, a0, a1, a2, -⟩ := HS2.out.cells; have f0 := HS2.out.free 0 (by omega); have f1 := HS2.out.free 1 (by omega); have f2 := HS2.out.free 2 (by omega); have hz := HS2.out.lt; clear hb))
  exact bodyPost_ret (v := .agg #[.bool b, .int .i8 0, .int .u64 n]) (by simp [results, Tryd.results95, go_sem, d0, d1, d2, f0, f1, f2, hz]) rfl ⟨rfl, ((HS2.out.below.setCell (p := ⟨w.heap.size + 1, 0, none⟩) (Nat.le_succ _) _).setCell (p := ⟨w.heap.size + 1, 1, none⟩) (Nat.le_succ _) _).setCell (p := ⟨w.heap.size + 1, 2, none⟩) (Nat.le_succ _) _⟩
set_option maxHeartbeats 1000000 in
theorem round95_stay_nat (b : Bool) (n s : Nat) (w : World) (hs : s ≤ 19) (k : Nat) (hk : s ≤ k) :
    Calls Tryd.prog 95 #[.agg #[.bool b, .int .i8 s, .int .u64 n], .int .i64 (k : Int)] w fun e w' => e = .returned (.agg #[.bool b, .int .i8 s, .int .u64 n]) ∧ Below w.heap.size w w' := by
  have HC := Lib.hid (fun W => scale_any b s n W hs)
  have HS : Hid (St w ((w.alloc (.cells #[.bool b, .int .i8 s, .int .u64 n] 74)).alloc (.cells #[.bool false, .int .i8 0, .int .u64 0] 74))
      [(w.heap.size + 1, 0, .bool false), (w.heap.size + 1, 1, .int .i8 0), (w.heap.size + 1, 2, .int .u64 0), (w.heap.size, 0, .bool b), (w.heap.size, 1, .int .i8 s), (w.heap.size, 2, .int .u64 n)] (w.heap.size + 1) 3) :=
    ⟨Cells.box3 (Cells.box3 (Cells.nil _) rfl _ _ _ _) (by simp) _ _ _ _, fun o _ => free_box (by simp) _ _ _, by simp, ((Below.refl _ _).alloc (Nat.le_refl _) _).alloc (by simp) _⟩
  have hne : w.heap.size + 1 ≠ w.heap.size := by omega
  have hk0 : ¬ ((k : Int) < 0) := by omega
  have hk1 : decide ((s : Int) ≤ (k : Int)) = true := decide_eq_true (by omega)
  have hk2 : decide (s ≤ k) = true := decide_eq_true hk
  clear hs
  go_enter Tryd.func95, Tryd.ntmps95
  go_wp2_with (first | (go_at_call 83; go_must (refine (HC.out _).mono ?_); rintro e w2 ⟨rfl, hb⟩; have HS2 := Lib.hid (HS.out.call hb); obtain ⟨d0, d1, d2, a0, a1, a2, -⟩ := HS2.out.cells; have f0 := HS2.out.free 0 (by omega); have f1 := HS2.out.free 1 (by omega); have f2 := HS2.out.free 2 (by omega); have hz := HS2.out.lt; clear hb))
  exact bodyPost_ret (v := .agg #[.bool b, .int .i8 s, .int .u64 n]) (by simp [results, Tryd.results95, go_sem, d0, d1, d2, f0, f1, f2, hz]) rfl ⟨rfl, ((HS2.out.below.setCell (p := ⟨w.heap.size + 1, 0, none⟩) (Nat.le_succ _) _).setCell (p := ⟨w.heap.size + 1, 1, none⟩) (Nat.le_succ _) _).setCell (p := ⟨w.heap.size + 1, 2, none⟩) (Nat.le_succ _) _⟩
set_option maxHeartbeats 2000000 in
theorem round95_neg (b : Bool) (n s : Nat) (w : World) (hs : s ≤ 19) (hn : n ≤ 9999999999999999999) (z : Int) (hz0 : z < 0) (hz1 : z ≥ -9223372036854775808) (h0 : 0 < s)  (hp : w.cell? ⟨0, s - 0, none⟩ = some (.int .u64 ((10 ^ (s - 0) : Nat) : Int))) :
    Calls Tryd.prog 95 #[.agg #[.bool b, .int .i8 s, .int .u64 n], .int .i64 z] w fun e w' => e = .returned (.agg #[.bool (b && decide (0 < rEven n (s - 0))), .int .i8 (0 : Int), .int .u64 ((rEven n (s - 0) : Nat) : Int)]) ∧ Below w.heap.size w w' := by
  have HC := Lib.hid (fun W => scale_any b s n W hs)
  have HN := Lib.hid (fun W => isNeg_any b s n W)
  obtain ⟨d, hd⟩ : ∃ d, s - 0 = d := ⟨_, rfl⟩
  rw [hd] at hp ⊢
  have HR := Lib.hid (fun W h => rshEven_any n d W hn (by omega) (by omega) h)
  have HP := Lib.hid (fun (W : World) (hb : Below w.heap.size w W) => pw_cell_below hb hp)
  have HU := Lib.hid (fun W => newUnsafe_any b ((rEven n d)) 0 W (by omega))
  generalize hm : (rEven n d) = m at *
  generalize hbm : (b && decide (0 < m)) = bm at *
  obtain rfl : s = d := by omega
  rw [show ((0 : Nat) : Int) = 0 from rfl] at HU
  have hk1 : decide ((s : Int) ≤ 0) = false := decide_eq_false (by omega)
  have hk2 : decide (s = 0) = false := decide_eq_false (by omega)
  have HS : Hid (St w ((w.alloc (.cells #[.bool b, .int .i8 s, .int .u64 n] 74)).alloc (.cells #[.bool false, .int .i8 0, .int .u64 0] 74))
      [(w.heap.size + 1, 0, .bool false), (w.heap.size + 1, 1, .int .i8 0), (w.heap.size + 1, 2, .int .u64 0), (w.heap.size, 0, .bool b), (w.heap.size, 1, .int .i8 s), (w.heap.size, 2, .int .u64 n)] (w.heap.size + 1) 3) :=
    ⟨Cells.box3 (Cells.box3 (Cells.nil _) rfl _ _ _ _) (by simp) _ _ _ _, fun o _ => free_box (by simp) _ _ _, by simp, ((Below.refl _ _).alloc (Nat.le_refl _) _).alloc (by simp) _⟩
  have hne : w.heap.size + 1 ≠ w.heap.size := by omega
  clear hp hn hm hbm hd h0
  go_enter Tryd.func95, Tryd.ntmps95
  go_wp2_with (first | (go_at_call 83; go_must (refine (HC.out _).mono ?_); rintro e w2 ⟨rfl, hb⟩; first | (have HS4 := Lib.hid (HS2.out.call hb); obtain ⟨d04, d14, d24, a04, a14, a24, -⟩ := HS4.out.cells; clear hb) | (have HS2 := Lib.hid (HS.out.call hb); obtain ⟨d02, d12, d22, a02, a12, a22, -⟩ := HS2.out.cells; clear hb)) | (go_at_call 91; go_must (refine (HR.out _ (HP.out _ HS4.out.below)).mono ?_); rintro e w5 ⟨rfl, hb⟩; have HS5 := Lib.hid (HS4.out.call hb); obtain ⟨d05, d15, d25, a05, a15, a25, -⟩ := HS5.out.cells; clear hb) | (go_at_call 81; go_must (refine (HN.out _).mono ?_); rintro e w6 ⟨rfl, hb⟩; have HS6 := Lib.hid (HS5.out.call hb); clear hb) | (go_at_call 85; go_must (refine (HU.out _).mono ?_); rintro e w7 ⟨rfl, hb⟩; have HS7 := Lib.hid (HS6.out.call hb); obtain ⟨d0, d1, d2, -⟩ := HS7.out.cells; have f0 := HS7.out.free 0 (by omega); have f1 := HS7.out.free 1 (by omega); have f2 := HS7.out.free 2 (by omega); have hz := HS7.out.lt; clear hb))
  exact bodyPost_ret (v := .agg #[.bool bm, .int .i8 0, .int .u64 m]) (by simp [results, Tryd.results95, go_sem, d0, d1, d2, f0, f1, f2, hz]) rfl ⟨rfl, ((HS7.out.below.setCell (p := ⟨w.heap.size + 1, 0, none⟩) (Nat.le_succ _) _).setCell (p := ⟨w.heap.size + 1, 1, none⟩) (Nat.le_succ _) _).setCell (p := ⟨w.heap.size + 1, 2, none⟩) (Nat.le_succ _) _⟩
set_option maxHeartbeats 2000000 in
theorem round95_nat (b : Bool) (n s : Nat) (w : World) (hs : s ≤ 19) (hn : n ≤ 9999999999999999999) (k : Nat) (hk : k < s)  (hp : w.cell? ⟨0, s - k, none⟩ = some (.int .u64 ((10 ^ (s - k) : Nat) : Int))) :
    Calls Tryd.prog 95 #[.agg #[.bool b, .int .i8 s, .int .u64 n], .int .i64 (k : Int)] w fun e w' => e = .returned (.agg #[.bool (b && decide (0 < rEven n (s - k))), .int .i8 (k : Int), .int .u64 ((rEven n (s - k) : Nat) : Int)]) ∧ Below w.heap.size w w' := by
  have HC := Lib.hid (fun W => scale_any b s n W hs)
  have HN := Lib.hid (fun W => isNeg_any b s n W)
  obtain ⟨d, hd⟩ : ∃ d, s - k = d := ⟨_, rfl⟩
  rw [hd] at hp ⊢
  have HR := Lib.hid (fun W h => rshEven_any n d W hn (by omega) (by omega) h)
  have HP := Lib.hid (fun (W : World) (hb : Below w.heap.size w W) => pw_cell_below hb hp)
  have HU := Lib.hid (fun W => newUnsafe_any b ((rEven n d)) k W (by omega))
  generalize hm : (rEven n d) = m at *
  generalize hbm : (b && decide (0 < m)) = bm at *
  have hk0 : ¬ ((k : Int) < 0) := by omega
  have hk1 : decide ((s : Int) ≤ (k : Int)) = false := decide_eq_false (by omega)
  have hk2 : decide (s ≤ k) = false := decide_eq_false (by omega)
  have hsd : (s : Int) - (k : Int) = (d : Int) := by omega
  have hsk : k ≤ s := by omega
  have HS : Hid (St w ((w.alloc (.cells #[.bool b, .int .i8 s, .int .u64 n] 74)).alloc (.cells #[.bool false, .int .i8 0, .int .u64 0] 74))
      [(w.heap.size + 1, 0, .bool false), (w.heap.size + 1, 1, .int .i8 0), (w.heap.size + 1, 2, .int .u64 0), (w.heap.size, 0, .bool b), (w.heap.size, 1, .int .i8 s), (w.heap.size, 2, .int .u64 n)] (w.heap.size + 1) 3) :=
    ⟨Cells.box3 (Cells.box3 (Cells.nil _) rfl _ _ _ _) (by simp) _ _ _ _, fun o _ => free_box (by simp) _ _ _, by simp, ((Below.refl _ _).alloc (Nat.le_refl _) _).alloc (by simp) _⟩
  have hne : w.heap.size + 1 ≠ w.heap.size := by omega
  clear hp hn hm hbm hd hk
  go_enter Tryd.func95, Tryd.ntmps95
  go_wp2_with (first | (go_at_call 83; go_must (refine (HC.out _).mono ?_); rintro e w2 ⟨rfl, hb⟩; first | (have HS4 := Lib.hid (HS2.out.call hb); obtain ⟨d04, d14, d24, a04, a14, a24, -⟩ := HS4.out.cells; clear hb) | (have HS2 := Lib.hid (HS.out.call hb); obtain ⟨d02, d12, d22, a02, a12, a22, -⟩ := HS2.out.cells; clear hb)) | (go_at_call 91; go_must (refine (HR.out _ (HP.out _ HS4.out.below)).mono ?_); rintro e w5 ⟨rfl, hb⟩; have HS5 := Lib.hid (HS4.out.call hb); obtain ⟨d05, d15, d25, a05, a15, a25, -⟩ := HS5.out.cells; clear hb) | (go_at_call 81; go_must (refine (HN.out _).mono ?_); rintro e w6 ⟨rfl, hb⟩; have HS6 := Lib.hid (HS5.out.call hb); clear hb) | (go_at_call 85; go_must (refine (HU.out _).mono ?_); rintro e w7 ⟨rfl, hb⟩; have HS7 := Lib.hid (HS6.out.call hb); obtain ⟨d0, d1, d2, -⟩ := HS7.out.cells; have f0 := HS7.out.free 0 (by omega); have f1 := HS7.out.free 1 (by omega); have f2 := HS7.out.free 2 (by omega); have hz := HS7.out.lt; clear hb))
  exact bodyPost_ret (v := .agg #[.bool bm, .int .i8 k, .int .u64 m]) (by simp [results, Tryd.results95, go_sem, d0, d1, d2, f0, f1, f2, hz]) rfl ⟨rfl, ((HS7.out.below.setCell (p := ⟨w.heap.size + 1, 0, none⟩) (Nat.le_succ _) _).setCell (p := ⟨w.heap.size + 1, 1, none⟩) (Nat.le_succ _) _).setCell (p := ⟨w.heap.size + 1, 2, none⟩) (Nat.le_succ _) _⟩
end Go.Proofs.YthkmgjkajllemaaDoor.Spec

/- Whole numbers of 64 bits: the product and the shift to the left where there is room for them; quotient and remainder. -/
namespace Go.Proofs.YthkmgjkajllemaaDoor.Spec
open Go.RowKit Go.Proofs.YthkmgjkajllemaaDoorW.PrintWords Go.Proofs.YthkmgjkajllemaaDoor.Num Go.Proofs.YthkmgjkajllemaaDoor.Arith Go.Proofs.YthkmgjkajllemaaDoor.Make
set_option linter.unusedVariables false
set_option linter.unusedSimpArgs false

set_option maxHeartbeats 1000000 in
set_option maxRecDepth 100000 in
theorem mul_room (x y p : Nat) (w : World) (hx : x ≤ 9999999999999999999) (hy : 0 < y) (hy1 : y ≤ 10000000000000000000) (hp : x * y = p) (hpl : p ≤ 9999999999999999999) :
    Calls Tryd.prog 106 #[.int .u64 x, .int .u64 y] w fun e w' => e = .returned (.tuple #[.int .u64 p, .bool true]) ∧ Below w.heap.size w w' := by
  have hm : (x : Int) * (y : Int) = (p : Int) := by rw [← hp, Int.natCast_mul]
  have hq : (p : Int) / (y : Int) = (x : Int) := by rw [← hp, ← Int.natCast_ediv, Nat.mul_div_cancel _ hy]
  have hy0 : ((y : Int) == 0) = false := beq_eq_false_iff_ne.2 (by omega)
  have hy2 : 1 ≤ y := hy
  have hpg : decide ((9999999999999999999 : Int) < (p : Int)) = false := decide_eq_false (by omega)
  have hpg2 : decide ((9999999999999999999 : Nat) < p) = false := decide_eq_false (by omega)
  clear hp hy
  go_enter Tryd.func106, Tryd.ntmps106
  go_wp2
  go_ret2
  exact ⟨rfl, Below.refl _ _⟩
set_option maxHeartbeats 1000000 in
set_option maxRecDepth 100000 in
theorem lsh_room (x d p : Nat) (w : World) (h1 : 1 ≤ d) (h2 : d ≤ 19) (hp : x * 10 ^ d = p) (hpl : p ≤ 9999999999999999999) (hc : w.cell? ⟨0, d, none⟩ = some (.int .u64 ((10 ^ d : Nat) : Int))) :
    Calls Tryd.prog 93 #[.int .u64 x, .int .i64 d] w fun e w' => e = .returned (.tuple #[.int .u64 p, .bool true]) ∧ Below w.heap.size w w' := by
  have hten := (ten_le d h1).1
  have hx10 : x * 10 ≤ p := by rw [← hp]; exact Nat.mul_le_mul_left _ hten
  have hxl : x ≤ 999999999999999999 := by omega
  have hd2 : decide ((20 : Int) ≤ (d : Int)) = false := decide_eq_false (by omega)
  have hpw : 10 ^ d ≤ 10000000000000000000 := Nat.pow_le_pow_right (by decide) h2
  have HM := Lib.hid (fun W => mul_room x (10 ^ d) p W (by omega) (by omega) hpw hp hpl)
  by_cases hd : d = 1
  · subst hd
    by_cases hb : x < 999999999999999999
    · have hp10 : p = x * 10 := by omega
      subst hp10
      have HX := Lib.hid hb
      have hx17 : x ≤ 999999999999999999 := hxl
      have hbb : decide ((x : Int) < 999999999999999999) = true := decide_eq_true (by omega)
      clear HM hc hx10 hten hd2 hpw hp hxl hb
      rw [show ((1 : Nat) : Int) = 1 from rfl]
      go_enter Tryd.func93, Tryd.ntmps93
      go_wp2
      go_ret2
      exact ⟨rfl, Below.refl _ _⟩
    · have hb2 : decide ((x : Int) < 999999999999999999) = false := decide_eq_false (by omega)
      rw [show (10 ^ 1 : Nat) = 10 from rfl] at HM hc
      clear hx10 hten hd2 hpw hp hb hxl hpl
      rw [show ((1 : Nat) : Int) = 1 from rfl]
      rw [show ((10 : Nat) : Int) = 10 from rfl] at HM hc
      go_enter Tryd.func93, Tryd.ntmps93
      go_wp2_with (go_at_call 106; go_must (refine (HM.out _).mono ?_); rintro e w1 ⟨rfl, hb⟩; have HB := Lib.hid hb; clear hb)
      go_ret2
      exact ⟨rfl, HB.out⟩
  · have hd1 : decide (d = 1) = false := decide_eq_false hd
    have hd0 : decide (d = 0) = false := decide_eq_false (by omega)
    have hd3 : ((d : Int) == 1) = false := beq_eq_false_iff_ne.2 (by omega)
    generalize (10 ^ d : Nat) = c at *
    clear hx10 hten hpw hp hd
    go_enter Tryd.func93, Tryd.ntmps93
    go_wp2_with (go_at_call 106; go_must (refine (HM.out _).mono ?_); rintro e w1 ⟨rfl, hb⟩; have HB := Lib.hid hb; clear hb)
    go_ret2
    exact ⟨rfl, HB.out⟩
set_option maxHeartbeats 1000000 in
theorem quoRem_any (x y : Nat) (w : World) (hx : x ≤ 9999999999999999999) (hy : 0 < y) (hy1 : y ≤ 10000000000000000000) :
    Calls Tryd.prog 92 #[.int .u64 x, .int .u64 y] w fun e w' => e = .returned (.tuple #[.int .u64 ((x / y : Nat) : Int), .int .u64 ((x % y : Nat) : Int), .bool true]) ∧ Below w.heap.size w w' := by
  have hq : (x : Int) / (y : Int) = ((x / y : Nat) : Int) := by rw [Int.natCast_ediv]
  have hm : ((x / y : Nat) : Int) * (y : Int) = ((x / y * y : Nat) : Int) := by rw [Int.natCast_mul]
  have hdm := Nat.div_add_mod x y
  rw [Nat.mul_comm] at hdm
  have hql := Nat.div_le_self x y
  have hy0 : ((y : Int) == 0) = false := beq_eq_false_iff_ne.2 (by omega)
  have hy2 : 1 ≤ y := hy
  generalize x / y = q at *
  generalize x % y = r at *
  obtain ⟨p, hpp⟩ : ∃ p, q * y = p := ⟨_, rfl⟩
  rw [hpp] at hm hdm
  have hr : (x : Int) - (p : Int) = (r : Int) := by omega
  have hpx : p ≤ x := by omega
  clear hpp hdm hy
  go_enter Tryd.func92, Tryd.ntmps92
  go_wp2
  go_ret3
  exact ⟨rfl, Below.refl _ _⟩
end Go.Proofs.YthkmgjkajllemaaDoor.Spec

/- Decimal.Pad and Decimal.Rescale of govalues. -/
namespace Go.Proofs.YthkmgjkajllemaaDoor.Spec
open Go.RowKit Go.Proofs.YthkmgjkajllemaaDoorW.PrintWords Go.Proofs.YthkmgjkajllemaaDoorW.PrintMore Go.Proofs.YthkmgjkajllemaaDoor.Num Go.Proofs.YthkmgjkajllemaaDoor.Arith Go.Proofs.YthkmgjkajllemaaDoor.Make Go.Proofs.YthkmgjkajllemaaDoor.Fint
attribute [local go_sem] max2_int min2_int max_two min_two max_three min_three
set_option linter.unusedVariables false
set_option linter.unusedSimpArgs false

theorem decPrec_any (b : Bool) (s n : Nat) (w : World) (hp : PowAt w) (hn : n ≤ 9999999999999999999) (h0 : 0 < w.heap.size) :
    Calls Tryd.prog 107 #[.agg #[.bool b, .int .i8 s, .int .u64 n]] w fun e w' => e = .returned (.int .i64 (dg n)) ∧ Below w.heap.size w w' := by
  have HP := Lib.hid (fun W hW => prec_any n W hW (by show (n : Int) < (10 : Int) ^ 20; omega))
  have HA : Hid (PowAt (w.alloc (.cells #[.bool b, .int .i8 s, .int .u64 n] 74))) := Lib.hid (fun i hi => (((Below.refl w.heap.size w).alloc (Nat.le_refl _) _).cell (p := ⟨0, i, none⟩) h0).trans (hp i hi))
  have HB := Lib.hid ((Below.refl w.heap.size w).alloc (Nat.le_refl _) (.cells #[.bool b, .int .i8 s, .int .u64 n] 74))
  clear hp hn h0
  go_enter Tryd.func107, Tryd.ntmps107
  go_wp2_with (go_at_call 77; go_must (refine (HP.out _ HA.out).mono ?_); rintro e w1 ⟨rfl, rfl⟩)
  go_ret
  exact ⟨rfl, HB.out⟩

theorem pow_cell {w W : World} (hp : PowAt w) (i : Nat) (hi : i < 20) (hb : Below w.heap.size w W) (h0 : 0 < w.heap.size) : W.cell? ⟨0, i, none⟩ = some (.int .u64 ((10 ^ i : Nat) : Int)) := (hb.cell (p := ⟨0, i, none⟩) h0).trans (hp i hi)
theorem dg_room (n g e : Nat) (hg : dg n = g) (h : g + e ≤ 19) : n * 10 ^ e ≤ 9999999999999999999 := by
  have h1 := (dg_le n g).1 (by omega)
  have h2 : n < 10 ^ g := by
    have : (n : Int) < ((10 ^ g : Nat) : Int) := by rw [Int.natCast_pow]; exact h1
    omega
  have h3 : n * 10 ^ e < 10 ^ g * 10 ^ e := Nat.mul_lt_mul_of_pos_right h2 (Nat.pow_pos (by decide))
  rw [← Nat.pow_add] at h3
  have h4 : 10 ^ (g + e) ≤ 10 ^ 19 := Nat.pow_le_pow_right (by decide) h
  have h5 : (10 : Nat) ^ 19 = 10000000000000000000 := by decide
  omega

set_option maxHeartbeats 4000000 in
set_option maxRecDepth 100000 in
theorem pad_stay (b : Bool) (n s k M t g : Nat) (z : Int) (w : World) (hs : s ≤ 19) (hn : n ≤ 9999999999999999999) (hp : PowAt w) (h0 : 0 < w.heap.size) (hg : dg n = g) (hg19 : g ≤ 19) (hM : M = 19 - g + s)
    (hz0 : -9223372036854775808 ≤ z) (hz1 : z ≤ 9223372036854775807)
    (hk1 : (if (19 : Int) < z then (19 : Int) else z) = (k : Int)) (hk2 : (if M < k then (M : Int) else (k : Int)) = (t : Int)) (hst : t ≤ s) :
    Calls Tryd.prog 94 #[.agg #[.bool b, .int .i8 s, .int .u64 n], .int .i64 z] w fun e w' => e = .returned (.agg #[.bool b, .int .i8 s, .int .u64 n]) ∧ Below w.heap.size w w' := by
  have HC := Lib.hid (fun W => scale_any b s n W hs)
  have HPr := Lib.hid (fun W hW hW0 => decPrec_any b s n W hW hn hW0)
  have HPow := Lib.hid (fun (W : World) (hb : Below w.heap.size w W) => (fun i hi => (hb.cell (p := ⟨0, i, none⟩) h0).trans (hp i hi) : PowAt W))
  have HH0 := Lib.hid (fun (W : World) (hb : Below w.heap.size w W) => Nat.lt_of_lt_of_le h0 hb.size)
  rw [hg] at HPr
  have HS : Hid (St w ((w.alloc (.cells #[.bool b, .int .i8 s, .int .u64 n] 74)).alloc (.cells #[.bool false, .int .i8 0, .int .u64 0] 74))
      [(w.heap.size + 1, 0, .bool false), (w.heap.size + 1, 1, .int .i8 0), (w.heap.size + 1, 2, .int .u64 0), (w.heap.size, 0, .bool b), (w.heap.size, 1, .int .i8 s), (w.heap.size, 2, .int .u64 n)] (w.heap.size + 1) 3) :=
    ⟨Cells.box3 (Cells.box3 (Cells.nil _) rfl _ _ _ _) (by simp) _ _ _ _, fun o _ => free_box (by simp) _ _ _, by simp, ((Below.refl _ _).alloc (Nat.le_refl _) _).alloc (by simp) _⟩
  have hne : w.heap.size + 1 ≠ w.heap.size := by omega
  have hw1 : IntKind.i64.wrap (19 - (g : Int)) = 19 - (g : Int) := IntWalk.i64_in _ (by omega)
  have hw2 : IntKind.i64.wrap (19 - (g : Int) + (s : Int)) = (M : Int) := by rw [IntWalk.i64_in _ (by omega)]; omega
  have hst1 : decide ((t : Int) ≤ (s : Int)) = true := decide_eq_true (by omega)
  have hst2 : decide (t ≤ s) = true := decide_eq_true hst
  have htl : t ≤ 19 := by omega
  clear hs hn hp h0 hg hM hst hg19
  go_enter Tryd.func94, Tryd.ntmps94
  go_wp2
  obtain ⟨W, hW⟩ : ∃ W, (w.alloc (.cells #[.bool b, .int .i8 s, .int .u64 n] 74)).alloc (.cells #[.bool false, .int .i8 0, .int .u64 0] 74) = W := ⟨_, rfl⟩
  rw [hW] at HS ⊢
  clear hW
  have HS1 := Lib.hid (HS.out.call (below_drew (Below.refl _ _)))
  clear HS
  go_region_held3 (fun W' => W'.cell? ⟨w.heap.size, 0, none⟩ = some (.bool b) ∧ W'.cell? ⟨w.heap.size, 1, none⟩ = some (.int .i8 s) ∧ W'.cell? ⟨w.heap.size, 2, none⟩ = some (.int .u64 n))
    (first | exact (by have h := HS3.out.cells.2.2.2; exact ⟨h.1, h.2.1, h.2.2.1⟩) | exact (by have h := HS2.out.cells.2.2.2; exact ⟨h.1, h.2.1, h.2.2.1⟩) | exact (by have h := HS1.out.cells.2.2.2; exact ⟨h.1, h.2.1, h.2.2.1⟩) | go_keep)
    (first | (go_at_call 107; (refine (HPr.out _ (HPow.out _ HS1.out.below) (HH0.out _ HS1.out.below)).mono ?_); rintro e w2 ⟨rfl, hb⟩; have HS2 := Lib.hid (HS1.out.call hb); clear hb) | (go_at_call 83; (refine (HC.out _).mono ?_); rintro e w3 ⟨rfl, hb⟩; have HS3 := Lib.hid (HS2.out.call hb); clear hb))
  all_goals (obtain ⟨d03, d13, d23, a03, a13, a23, -⟩ := HS3.out.cells)
  all_goals (go_wp2_with (go_at_call 83; go_must (refine (HC.out _).mono ?_); rintro e w4 ⟨rfl, hb⟩; have HS4 := Lib.hid (HS3.out.call hb); obtain ⟨d0, d1, d2, a0, a1, a2, -⟩ := HS4.out.cells; have f0 := HS4.out.free 0 (by omega); have f1 := HS4.out.free 1 (by omega); have f2 := HS4.out.free 2 (by omega); have hz := HS4.out.lt; clear hb))
  all_goals exact bodyPost_ret (v := .agg #[.bool b, .int .i8 s, .int .u64 n]) (by simp [results, Tryd.results94, go_sem, d0, d1, d2, f0, f1, f2, hz]) rfl ⟨rfl, ((HS4.out.below.setCell (p := ⟨w.heap.size + 1, 0, none⟩) (Nat.le_succ _) _).setCell (p := ⟨w.heap.size + 1, 1, none⟩) (Nat.le_succ _) _).setCell (p := ⟨w.heap.size + 1, 2, none⟩) (Nat.le_succ _) _⟩

set_option maxHeartbeats 4000000 in
set_option maxRecDepth 100000 in
theorem pad_go (b : Bool) (n s k M t g : Nat) (z : Int) (w : World) (hs : s ≤ 19) (hn : n ≤ 9999999999999999999) (hp : PowAt w) (h0 : 0 < w.heap.size) (hg : dg n = g) (hg19 : g ≤ 19) (hM : M = 19 - g + s)
    (hz0 : -9223372036854775808 ≤ z) (hz1 : z ≤ 9223372036854775807)
    (hk1 : (if (19 : Int) < z then (19 : Int) else z) = (k : Int)) (hk2 : (if M < k then (M : Int) else (k : Int)) = (t : Int)) (hst : s < t) :
    Calls Tryd.prog 94 #[.agg #[.bool b, .int .i8 s, .int .u64 n], .int .i64 z] w fun e w' => e = .returned (.agg #[.bool (b && decide (0 < n * 10 ^ (t - s))), .int .i8 t, .int .u64 ((n * 10 ^ (t - s) : Nat) : Int)]) ∧ Below w.heap.size w w' := by
  have HC := Lib.hid (fun W => scale_any b s n W hs)
  have HPr := Lib.hid (fun W hW hW0 => decPrec_any b s n W hW hn hW0)
  have HPow := Lib.hid (fun (W : World) (hb : Below w.heap.size w W) => (fun i hi => (hb.cell (p := ⟨0, i, none⟩) h0).trans (hp i hi) : PowAt W))
  have HH0 := Lib.hid (fun (W : World) (hb : Below w.heap.size w W) => Nat.lt_of_lt_of_le h0 hb.size)
  rw [hg] at HPr
  have HS : Hid (St w ((w.alloc (.cells #[.bool b, .int .i8 s, .int .u64 n] 74)).alloc (.cells #[.bool false, .int .i8 0, .int .u64 0] 74))
      [(w.heap.size + 1, 0, .bool false), (w.heap.size + 1, 1, .int .i8 0), (w.heap.size + 1, 2, .int .u64 0), (w.heap.size, 0, .bool b), (w.heap.size, 1, .int .i8 s), (w.heap.size, 2, .int .u64 n)] (w.heap.size + 1) 3) :=
    ⟨Cells.box3 (Cells.box3 (Cells.nil _) rfl _ _ _ _) (by simp) _ _ _ _, fun o _ => free_box (by simp) _ _ _, by simp, ((Below.refl _ _).alloc (Nat.le_refl _) _).alloc (by simp) _⟩
  have hne : w.heap.size + 1 ≠ w.heap.size := by omega
  have hw1 : IntKind.i64.wrap (19 - (g : Int)) = 19 - (g : Int) := IntWalk.i64_in _ (by omega)
  have hw2 : IntKind.i64.wrap (19 - (g : Int) + (s : Int)) = (M : Int) := by rw [IntWalk.i64_in _ (by omega)]; omega
  have hst1 : decide ((t : Int) ≤ (s : Int)) = false := decide_eq_false (by omega)
  have hst2 : decide (t ≤ s) = false := decide_eq_false (by omega)
  have htk : t ≤ 19 ∧ t ≤ M := by
    have hk3 : k ≤ 19 := by
      by_cases h : (19 : Int) < z
      · rw [if_pos h] at hk1; omega
      · rw [if_neg h] at hk1; omega
    by_cases h : M < k
    · rw [if_pos h] at hk2; omega
    · rw [if_neg h] at hk2; omega
  have htl : t ≤ 19 := htk.1
  have htM := htk.2
  clear htk
  obtain ⟨d, hd⟩ : ∃ d, t - s = d := ⟨_, rfl⟩
  rw [hd]
  have hroom := dg_room n g d hg (by omega)
  obtain ⟨m, hm⟩ : ∃ m, n * 10 ^ d = m := ⟨_, rfl⟩
  rw [hm] at hroom ⊢
  have HLs := Lib.hid (fun W h => lsh_room n d m W (by omega) (by omega) hm hroom h)
  have HPd := Lib.hid (fun (W : World) (hb : Below w.heap.size w W) => pow_cell hp d (by omega) hb h0)
  have HN := Lib.hid (fun W => isNeg_any b s n W)
  have HU := Lib.hid (fun W => newUnsafe_any b m t W htl)
  generalize (b && decide (0 < m)) = bm at HU ⊢
  have hsd : (t : Int) - (s : Int) = (d : Int) := by omega
  have hsd2 : s ≤ t := by omega
  clear hs hn hp h0 hg hM hst hg19 hd hroom hm htM
  go_enter Tryd.func94, Tryd.ntmps94
  go_wp2
  obtain ⟨W, hW⟩ : ∃ W, (w.alloc (.cells #[.bool b, .int .i8 s, .int .u64 n] 74)).alloc (.cells #[.bool false, .int .i8 0, .int .u64 0] 74) = W := ⟨_, rfl⟩
  rw [hW] at HS ⊢
  clear hW
  have HS1 := Lib.hid (HS.out.call (below_drew (Below.refl _ _)))
  clear HS
  go_region_held3 (fun W' => W'.cell? ⟨w.heap.size, 0, none⟩ = some (.bool b) ∧ W'.cell? ⟨w.heap.size, 1, none⟩ = some (.int .i8 s) ∧ W'.cell? ⟨w.heap.size, 2, none⟩ = some (.int .u64 n))
    (first | exact (by have h := HS3.out.cells.2.2.2; exact ⟨h.1, h.2.1, h.2.2.1⟩) | exact (by have h := HS2.out.cells.2.2.2; exact ⟨h.1, h.2.1, h.2.2.1⟩) | exact (by have h := HS1.out.cells.2.2.2; exact ⟨h.1, h.2.1, h.2.2.1⟩) | go_keep)
    (first | (go_at_call 107; (refine (HPr.out _ (HPow.out _ HS1.out.below) (HH0.out _ HS1.out.below)).mono ?_); rintro e w2 ⟨rfl, hb⟩; have HS2 := Lib.hid (HS1.out.call hb); clear hb) | (go_at_call 83; (refine (HC.out _).mono ?_); rintro e w3 ⟨rfl, hb⟩; have HS3 := Lib.hid (HS2.out.call hb); clear hb))
  all_goals (obtain ⟨d03, d13, d23, a03, a13, a23, -⟩ := HS3.out.cells)
  all_goals (go_wp2_with (first | (go_at_call 83; go_must (refine (HC.out _).mono ?_); rintro e w4 ⟨rfl, hb⟩; first | (have HS5 := Lib.hid (HS4.out.call hb); obtain ⟨d05, d15, d25, a05, a15, a25, -⟩ := HS5.out.cells; clear hb) | (have HS4 := Lib.hid (HS3.out.call hb); obtain ⟨d04, d14, d24, a04, a14, a24, -⟩ := HS4.out.cells; clear hb)) | (go_at_call 93; go_must (refine (HLs.out _ (HPd.out _ HS5.out.below)).mono ?_); rintro e w6 ⟨rfl, hb⟩; have HS6 := Lib.hid (HS5.out.call hb); obtain ⟨d06, d16, d26, a06, a16, a26, -⟩ := HS6.out.cells; clear hb) | (go_at_call 81; go_must (refine (HN.out _).mono ?_); rintro e w7 ⟨rfl, hb⟩; have HS7 := Lib.hid (HS6.out.call hb); clear hb) | (go_at_call 85; go_must (refine (HU.out _).mono ?_); rintro e w8 ⟨rfl, hb⟩; have HS8 := Lib.hid (HS7.out.call hb); obtain ⟨d0, d1, d2, -⟩ := HS8.out.cells; have f0 := HS8.out.free 0 (by omega); have f1 := HS8.out.free 1 (by omega); have f2 := HS8.out.free 2 (by omega); have hz := HS8.out.lt; clear hb)))
  all_goals exact bodyPost_ret (v := .agg #[.bool bm, .int .i8 t, .int .u64 m]) (by simp [results, Tryd.results94, go_sem, d0, d1, d2, f0, f1, f2, hz]) rfl ⟨rfl, ((HS8.out.below.setCell (p := ⟨w.heap.size + 1, 0, none⟩) (Nat.le_succ _) _).setCell (p := ⟨w.heap.size + 1, 1, none⟩) (Nat.le_succ _) _).setCell (p := ⟨w.heap.size + 1, 2, none⟩) (Nat.le_succ _) _⟩

set_option maxHeartbeats 1000000 in
theorem rescale_pad (b : Bool) (n s : Nat) (z : Int) (nb : Bool) (m t : Nat) (w : World) (hs : s ≤ 19) (hz0 : -9223372036854775808 ≤ z) (hz1 : z ≤ 9223372036854775807) (hzs : (s : Int) < z)
    (hc : ∀ W, Below w.heap.size w W → Calls Tryd.prog 94 #[.agg #[.bool b, .int .i8 s, .int .u64 n], .int .i64 z] W fun e w' => e = .returned (.agg #[.bool nb, .int .i8 t, .int .u64 m]) ∧ Below W.heap.size W w') :
    Calls Tryd.prog 72 #[.agg #[.bool b, .int .i8 s, .int .u64 n], .int .i64 z] w fun e w' => e = .returned (.agg #[.bool nb, .int .i8 t, .int .u64 m]) ∧ Below w.heap.size w w' := by
  have HC := Lib.hid (fun W => scale_any b s n W hs)
  have HR := Lib.hid hc
  have HS : Hid (St w ((w.alloc (.cells #[.bool b, .int .i8 s, .int .u64 n] 74)).alloc (.cells #[.bool false, .int .i8 0, .int .u64 0] 74))
      [(w.heap.size + 1, 0, .bool false), (w.heap.size + 1, 1, .int .i8 0), (w.heap.size + 1, 2, .int .u64 0), (w.heap.size, 0, .bool b), (w.heap.size, 1, .int .i8 s), (w.heap.size, 2, .int .u64 n)] (w.heap.size + 1) 3) :=
    ⟨Cells.box3 (Cells.box3 (Cells.nil _) rfl _ _ _ _) (by simp) _ _ _ _, fun o _ => free_box (by simp) _ _ _, by simp, ((Below.refl _ _).alloc (Nat.le_refl _) _).alloc (by simp) _⟩
  have hne : w.heap.size + 1 ≠ w.heap.size := by omega
  have hzb : decide ((s : Int) < z) = true := decide_eq_true hzs
  clear hs hc
  go_enter Tryd.func72, Tryd.ntmps72
  go_wp2_with (first | (go_at_call 83; go_must (refine (HC.out _).mono ?_); rintro e w2 ⟨rfl, hb⟩; have HS2 := Lib.hid (HS.out.call hb); obtain ⟨d02, d12, d22, a02, a12, a22, -⟩ := HS2.out.cells; clear hb) | (go_at_call 94; go_must (refine (HR.out _ HS2.out.below).mono ?_); rintro e w3 ⟨rfl, hb⟩; have HS3 := Lib.hid (HS2.out.call hb); obtain ⟨d0, d1, d2, -⟩ := HS3.out.cells; have f0 := HS3.out.free 0 (by omega); have f1 := HS3.out.free 1 (by omega); have f2 := HS3.out.free 2 (by omega); have hz := HS3.out.lt; clear hb))
  exact bodyPost_ret (v := .agg #[.bool nb, .int .i8 t, .int .u64 m]) (by simp [results, Tryd.results72, go_sem, d0, d1, d2, f0, f1, f2, hz]) rfl ⟨rfl, ((HS3.out.below.setCell (p := ⟨w.heap.size + 1, 0, none⟩) (Nat.le_succ _) _).setCell (p := ⟨w.heap.size + 1, 1, none⟩) (Nat.le_succ _) _).setCell (p := ⟨w.heap.size + 1, 2, none⟩) (Nat.le_succ _) _⟩
set_option maxHeartbeats 1000000 in
theorem rescale_round (b : Bool) (n s : Nat) (z : Int) (nb : Bool) (m t : Nat) (w : World) (hs : s ≤ 19) (hz0 : -9223372036854775808 ≤ z) (hz1 : z ≤ 9223372036854775807) (hzs : ¬ (s : Int) < z)
    (hc : ∀ W, Below w.heap.size w W → Calls Tryd.prog 95 #[.agg #[.bool b, .int .i8 s, .int .u64 n], .int .i64 z] W fun e w' => e = .returned (.agg #[.bool nb, .int .i8 t, .int .u64 m]) ∧ Below W.heap.size W w') :
    Calls Tryd.prog 72 #[.agg #[.bool b, .int .i8 s, .int .u64 n], .int .i64 z] w fun e w' => e = .returned (.agg #[.bool nb, .int .i8 t, .int .u64 m]) ∧ Below w.heap.size w w' := by
  have HC := Lib.hid (fun W => scale_any b s n W hs)
  have HR := Lib.hid hc
  have HS : Hid (St w ((w.alloc (.cells #[.bool b, .int .i8 s, .int .u64 n] 74)).alloc (.cells #[.bool false, .int .i8 0, .int .u64 0] 74))
      [(w.heap.size + 1, 0, .bool false), (w.heap.size + 1, 1, .int .i8 0), (w.heap.size + 1, 2, .int .u64 0), (w.heap.size, 0, .bool b), (w.heap.size, 1, .int .i8 s), (w.heap.size, 2, .int .u64 n)] (w.heap.size + 1) 3) :=
    ⟨Cells.box3 (Cells.box3 (Cells.nil _) rfl _ _ _ _) (by simp) _ _ _ _, fun o _ => free_box (by simp) _ _ _, by simp, ((Below.refl _ _).alloc (Nat.le_refl _) _).alloc (by simp) _⟩
  have hne : w.heap.size + 1 ≠ w.heap.size := by omega
  have hzb : decide ((s : Int) < z) = false := decide_eq_false hzs
  clear hs hc
  go_enter Tryd.func72, Tryd.ntmps72
  go_wp2_with (first | (go_at_call 83; go_must (refine (HC.out _).mono ?_); rintro e w2 ⟨rfl, hb⟩; have HS2 := Lib.hid (HS.out.call hb); obtain ⟨d02, d12, d22, a02, a12, a22, -⟩ := HS2.out.cells; clear hb) | (go_at_call 95; go_must (refine (HR.out _ HS2.out.below).mono ?_); rintro e w3 ⟨rfl, hb⟩; have HS3 := Lib.hid (HS2.out.call hb); obtain ⟨d0, d1, d2, -⟩ := HS3.out.cells; have f0 := HS3.out.free 0 (by omega); have f1 := HS3.out.free 1 (by omega); have f2 := HS3.out.free 2 (by omega); have hz := HS3.out.lt; clear hb))
  exact bodyPost_ret (v := .agg #[.bool nb, .int .i8 t, .int .u64 m]) (by simp [results, Tryd.results72, go_sem, d0, d1, d2, f0, f1, f2, hz]) rfl ⟨rfl, ((HS3.out.below.setCell (p := ⟨w.heap.size + 1, 0, none⟩) (Nat.le_succ _) _).setCell (p := ⟨w.heap.size + 1, 1, none⟩) (Nat.le_succ _) _).setCell (p := ⟨w.heap.size + 1, 2, none⟩) (Nat.le_succ _) _⟩
end Go.Proofs.YthkmgjkajllemaaDoor.Spec

/- Decimals of govalues as numbers of the reference. -/
namespace Go.Proofs.YthkmgjkajllemaaDoor.Spec
open Go.RowKit Go.Proofs.YthkmgjkajllemaaDoorW.PrintWords Go.Proofs.YthkmgjkajllemaaDoor.Num Go.Proofs.YthkmgjkajllemaaDoor.Str Go.Proofs.YthkmgjkajllemaaDoor.Nats Go.Proofs.YthkmgjkajllemaaDoor.Val Go.Proofs.YthkmgjkajllemaaDoor.Arith Go.Proofs.YthkmgjkajllemaaDoor.NatOps Go.Proofs.YthkmgjkajllemaaDoor.Make
set_option linter.unusedVariables false
set_option linter.unusedSimpArgs false

/-- The number of a sign and an amount. -/
def fz (neg : Bool) (n : Nat) : Int := if neg then -(n : Int) else n
theorem fz_neg (neg : Bool) (n : Nat) : decide (fz neg n < 0) = (neg && decide (0 < n)) := by
  unfold fz
  cases neg
  · simp
  · rw [if_pos rfl]
    by_cases h : 0 < n
    · simp [h]
    · have : n = 0 := by omega
      subst this
      simp
theorem fz_abs (neg : Bool) (n : Nat) : (fz neg n).natAbs = n := by
  unfold fz
  cases neg <;> simp

set_option maxHeartbeats 2000000 in
set_option maxRecDepth 100000 in
/-- FixDec. -/
theorem fixDec_any (neg : Bool) (n s : Nat) (w : World) (hn : n < 18446744073709551616) (hs : s ≤ 1000) :
    Calls Tryd.prog 65 #[.agg #[.bool neg, .int .u64 n, .int .i64 s]] w fun e w' => ∃ u, e = .returned (.agg #[.bool (decide (fz neg n < 0)), u, .int .i64 (-(s : Int))]) ∧ IsNew w' w.heap.size u n ∧ Below w.heap.size w w' := by
  have HN := Lib.hid (fun W => natFrom_new n W hn)
  have HW := Lib.hid (fun r W hr => wholeMk_any neg r n W hr)
  rw [fz_neg]
  generalize (neg && decide (0 < n)) = x at HW ⊢
  have hw : IntKind.i64.wrap (-(s : Int)) = -(s : Int) := IntWalk.i64_in _ (by omega)
  have HS : Hid (St w ((w.alloc (.cells #[.bool neg, .int .u64 n, .int .i64 s] 32)).alloc (.cells #[.bool false, .slice none 0 0, .int .i64 0] 40))
      [(w.heap.size + 1, 0, .bool false), (w.heap.size + 1, 1, .slice none 0 0), (w.heap.size + 1, 2, .int .i64 0), (w.heap.size, 0, .bool neg), (w.heap.size, 1, .int .u64 n), (w.heap.size, 2, .int .i64 s)] (w.heap.size + 1) 3) :=
    ⟨Cells.box3 (Cells.box3 (Cells.nil _) rfl _ _ _ _) (by simp) _ _ _ _, fun o _ => free_box (by simp) _ _ _, by simp, ((Below.refl _ _).alloc (Nat.le_refl _) _).alloc (by simp) _⟩
  have hne : w.heap.size + 1 ≠ w.heap.size := by omega
  clear hn
  go_enter Tryd.func65, Tryd.ntmps65
  go_wp2
  obtain ⟨W, hW⟩ : ∃ W, (w.alloc (.cells #[.bool neg, .int .u64 n, .int .i64 s] 32)).alloc (.cells #[.bool false, .slice none 0 0, .int .i64 0] 40) = W := ⟨_, rfl⟩
  rw [hW] at HS ⊢
  clear hW
  have HS1 := Lib.hid (HS.out.call (below_drew (Below.refl _ _)))
  clear HS
  go_region_held3 (fun W' => W'.cell? ⟨w.heap.size, 0, none⟩ = some (.bool neg) ∧ W'.cell? ⟨w.heap.size, 1, none⟩ = some (.int .u64 n) ∧ W'.cell? ⟨w.heap.size, 2, none⟩ = some (.int .i64 s))
    (first | exact (by have h := HS3.out.cells.2.2.2; exact ⟨h.1, h.2.1, h.2.2.1⟩) | exact (by have h := HS2.out.cells.2.2.2; exact ⟨h.1, h.2.1, h.2.2.1⟩) | exact (by have h := HS1.out.cells.2.2.2; exact ⟨h.1, h.2.1, h.2.2.1⟩) | go_keep)
    (first | (go_at_call 11; (refine (HN.out _).mono ?_); rintro e w2 ⟨r, rfl, hn, hb⟩; have HS2 := Lib.hid (HS1.out.call hb); have HG2 := Lib.hid hn; obtain ⟨A2, c2, rfl⟩ := hn.slice; clear hn hb) | (go_at_call 62; (refine (HW.out _ _ HG2.out.isNat).mono ?_); rintro e w3 ⟨rfl, hb⟩; have HS3 := Lib.hid (HS2.out.call hb); have HG3 := Lib.hid (HG2.out.below hb); obtain ⟨d0, d1, d2, b0', b1', b2', -⟩ := HS3.out.cells; have f0 := HS3.out.free 0 (by omega); have f1 := HS3.out.free 1 (by omega); have f2 := HS3.out.free 2 (by omega); have hz := HS3.out.lt; clear hb))
  all_goals (go_wp2; exact bodyPost_ret (v := .agg #[.bool x, .slice A2 (limbs n).length c2, .int .i64 (-(s : Int))]) (by simp [results, Tryd.results65, go_sem, d0, d1, d2, f0, f1, f2, hz]) rfl ⟨_, rfl, (((HG3.out.set (by exact HS1.out.lt) _).set (by exact HS1.out.lt) _).set (by exact HS1.out.lt) _).lower HS1.out.below.size, ((HS3.out.below.setCell (p := ⟨w.heap.size + 1, 0, none⟩) (Nat.le_succ _) _).setCell (p := ⟨w.heap.size + 1, 1, none⟩) (Nat.le_succ _) _).setCell (p := ⟨w.heap.size + 1, 2, none⟩) (Nat.le_succ _) _⟩)

set_option maxHeartbeats 2000000 in
set_option maxRecDepth 100000 in
/-- FixNum. -/
theorem fixNum_any (neg : Bool) (n s : Nat) (w : World) (hn : n < 18446744073709551616) (hs : s < 1000) :
    Calls Tryd.prog 66 #[.agg #[.bool neg, .int .u64 n, .int .i64 s]] w fun e w' => ∃ u v, e = .returned (.agg #[.bool (decide (fz neg n < 0)), u, v]) ∧ IsNew w' w.heap.size u n ∧ IsNew w' w.heap.size v (10 ^ s) ∧ Below w.heap.size w w' := by
  have hl := limbs_length 3 n (by omega)
  have HD := Lib.hid (fun W => fixDec_any neg n s W hn (by omega))
  have HF := Lib.hid (fun u b0 W (h1 : IsNew W b0 u n) h2 => decFrac_any (fz neg n) s b0 u W (by rw [fz_abs]; exact h1) h2 hs (by rw [fz_abs]; omega))
  rw [fz_abs] at HF
  generalize decide (fz neg n < 0) = x at HD HF ⊢
  clear hn hl hs
  have HS : Hid (St w ((w.alloc (.cells #[.bool neg, .int .u64 n, .int .i64 s] 32)).alloc (.cells #[.bool false, .slice none 0 0, .slice none 0 0] 45))
      [(w.heap.size + 1, 0, .bool false), (w.heap.size + 1, 1, .slice none 0 0), (w.heap.size + 1, 2, .slice none 0 0), (w.heap.size, 0, .bool neg), (w.heap.size, 1, .int .u64 n), (w.heap.size, 2, .int .i64 s)] (w.heap.size + 1) 3) :=
    ⟨Cells.box3 (Cells.box3 (Cells.nil _) rfl _ _ _ _) (by simp) _ _ _ _, fun o _ => free_box (by simp) _ _ _, by simp, ((Below.refl _ _).alloc (Nat.le_refl _) _).alloc (by simp) _⟩
  go_enter Tryd.func66, Tryd.ntmps66
  go_wp2_with (first | (go_at_call 65; go_must (refine (HD.out _).mono ?_); rintro e w2 ⟨r, rfl, hn, hb⟩; have HS2 := Lib.hid (HS.out.call hb); have HL2 := Lib.hid hb.size; have HG2 := Lib.hid hn; obtain ⟨A2, c2, rfl⟩ := hn.slice; clear hn hb) | (go_at_call 30; go_must (refine (HF.out _ _ _ HG2.out HL2.out).mono ?_); rintro e w3 ⟨u, v, rfl, hn, hn', hb⟩; have HS3 := Lib.hid (HS2.out.call hb); have HG3 := Lib.hid hn; have HG3' := Lib.hid hn'; obtain ⟨A3, c3, rfl⟩ := hn.slice; obtain ⟨A4, c4, rfl⟩ := hn'.slice; obtain ⟨d0, d1, d2, b0', b1', b2', -⟩ := HS3.out.cells; have f0 := HS3.out.free 0 (by omega); have f1 := HS3.out.free 1 (by omega); have f2 := HS3.out.free 2 (by omega); have hz := HS3.out.lt; clear hn hn' hb))
  exact bodyPost_ret (v := .agg #[.bool x, .slice A3 (limbs n).length c3, .slice A4 (limbs (10 ^ s)).length c4]) (by simp [results, Tryd.results66, go_sem, d0, d1, d2, f0, f1, f2, hz]) rfl ⟨_, _, rfl, (((HG3.out.set (by exact HS.out.lt) _).set (by exact HS.out.lt) _).set (by exact HS.out.lt) _).lower HS.out.below.size, (((HG3'.out.set (by exact HS.out.lt) _).set (by exact HS.out.lt) _).set (by exact HS.out.lt) _).lower HS.out.below.size, ((HS3.out.below.setCell (p := ⟨w.heap.size + 1, 0, none⟩) (Nat.le_succ _) _).setCell (p := ⟨w.heap.size + 1, 1, none⟩) (Nat.le_succ _) _).setCell (p := ⟨w.heap.size + 1, 2, none⟩) (Nat.le_succ _) _⟩
end Go.Proofs.YthkmgjkajllemaaDoor.Spec

/- FixIs, FixHas, FixSame. -/
namespace Go.Proofs.YthkmgjkajllemaaDoor.Spec
open Go.RowKit Go.Proofs.YthkmgjkajllemaaDoorW.PrintWords Go.Proofs.YthkmgjkajllemaaDoor.Num Go.Proofs.YthkmgjkajllemaaDoor.Str Go.Proofs.YthkmgjkajllemaaDoor.Nats Go.Proofs.YthkmgjkajllemaaDoor.Val Go.Proofs.YthkmgjkajllemaaDoor.Arith Go.Proofs.YthkmgjkajllemaaDoor.NatOps Go.Proofs.YthkmgjkajllemaaDoor.Make
set_option linter.unusedVariables false
set_option linter.unusedSimpArgs false

theorem fixIs_ok (neg : Bool) (n s : Nat) (w : World) (hn : n ≤ 9999999999999999999) (hs : s ≤ 19) :
    Calls Tryd.prog 20 #[.agg #[.bool neg, .int .u64 n, .int .i64 s]] w fun e w' => e = .returned (.bool true) ∧ Below w.heap.size w w' := by
  have g0 : decide ((n : Int) ≤ 9999999999999999999) = true := decide_eq_true (by omega)
  have g1 : decide ((0 : Int) ≤ (s : Int)) = true := decide_eq_true (by omega)
  have g2 : decide ((s : Int) ≤ 19) = true := decide_eq_true (by omega)
  clear hn hs
  go_enter Tryd.func20, Tryd.ntmps20
  go_wp2
  go_ret
  exact ⟨rfl, (Below.refl _ _).alloc (Nat.le_refl _) _⟩
theorem fixIs_big (neg : Bool) (n : Nat) (s : Int) (w : World) (hn : 9999999999999999999 < n) :
    Calls Tryd.prog 20 #[.agg #[.bool neg, .int .u64 n, .int .i64 s]] w fun e w' => e = .returned (.bool false) ∧ Below w.heap.size w w' := by
  have g0 : decide ((n : Int) ≤ 9999999999999999999) = false := decide_eq_false (by omega)
  clear hn
  go_enter Tryd.func20, Tryd.ntmps20
  go_wp2
  go_ret
  exact ⟨rfl, (Below.refl _ _).alloc (Nat.le_refl _) _⟩
theorem fixIs_scale (neg : Bool) (n : Nat) (s : Int) (w : World) (hn : n ≤ 9999999999999999999) (hs : s < 0 ∨ 19 < s) :
    Calls Tryd.prog 20 #[.agg #[.bool neg, .int .u64 n, .int .i64 s]] w fun e w' => e = .returned (.bool false) ∧ Below w.heap.size w w' := by
  have g0 : decide ((n : Int) ≤ 9999999999999999999) = true := decide_eq_true (by omega)
  clear hn
  by_cases h : s < 0
  · have g1 : decide ((0 : Int) ≤ s) = false := decide_eq_false (by omega)
    clear h hs
    go_enter Tryd.func20, Tryd.ntmps20
    go_wp2
    go_ret
    exact ⟨rfl, (Below.refl _ _).alloc (Nat.le_refl _) _⟩
  · have g1 : decide ((0 : Int) ≤ s) = true := decide_eq_true (by omega)
    have g2 : decide (s ≤ 19) = false := decide_eq_false (by omega)
    clear h hs
    go_enter Tryd.func20, Tryd.ntmps20
    go_wp2
    go_ret
    exact ⟨rfl, (Below.refl _ _).alloc (Nat.le_refl _) _⟩

theorem icmp_zero {p q : Int} (h : p = q) : icmp p q = 0 := by unfold icmp; rw [if_neg (by omega), if_pos h]

set_option maxHeartbeats 4000000 in
set_option maxRecDepth 100000 in
/-- FixHas, where it is so. -/
theorem fixHas_true (neg : Bool) (n s : Nat) (q : Int) (f : Nat) (u v : Value) (w : World) (hn : n ≤ 9999999999999999999) (hs : s ≤ 19) (hneg : neg = true → 0 < n) (hu : IsNat w u q.natAbs) (hv : IsNat w v f)
    (hq : (limbs q.natAbs).length < 1000) (hf : (limbs f).length < 1000) (heq : fz neg n * f = q * (10 ^ s : Nat)) (hl : (limbs (q * ((10 ^ s : Nat) : Int)).natAbs).length < 1000000) :
    Calls Tryd.prog 54 #[.agg #[.bool neg, .int .u64 n, .int .i64 s], .agg #[.bool (decide (q < 0)), u, v]] w fun e w' => e = .returned (.bool true) ∧ Below w.heap.size w w' := by
  have hlt : n < 18446744073709551616 := by omega
  have hn3 := limbs_length 3 n (by omega)
  have hp3 := limbs_length 3 (10 ^ s) (Nat.lt_of_le_of_lt (Nat.pow_le_pow_right (by decide) hs) (by decide))
  have HI := Lib.hid (fun W => fixIs_ok neg n s W hn hs)
  have HN := Lib.hid (fun W => fixNum_any neg n s W hlt (by omega))
  have HC := Lib.hid (fun u' v' W (h1 : IsNat W u' n) h2 h3 h4 => fracCmp_any (fz neg n) q (10 ^ s) f u' v' u v W (by rw [fz_abs]; exact h1) h2 h3 h4 (by rw [fz_abs]; omega) (by omega) hq hf (by rw [heq]; exact hl) hl)
  rw [icmp_zero heq] at HC
  have HU := Lib.hid (fun (W : World) (hb : Below w.heap.size w W) => hu.below hb)
  have HV := Lib.hid (fun (W : World) (hb : Below w.heap.size w W) => hv.below hb)
  obtain ⟨A, c, rfl, hc, hr⟩ := hu
  obtain ⟨B, cb, rfl, hcb, hrb⟩ := hv
  generalize decide (q < 0) = y at *
  generalize decide (fz neg n < 0) = x at *
  generalize (limbs q.natAbs).length = lq at *
  generalize (limbs f).length = lf at *
  have hb : (neg = false) ∨ (neg = true ∧ ((n : Int) == 0) = false ∧ decide ((n : Int) = 0) = false) := by
    cases neg with
    | false => exact .inl rfl
    | true => exact .inr ⟨rfl, beq_eq_false_iff_ne.2 (by have := hneg rfl; omega), decide_eq_false (by have := hneg rfl; omega)⟩
  clear hr hrb hc hcb hlt hn3 hp3 hq hf heq hl hneg hn
  have HS : Hid (St w ((w.alloc (.cells #[.bool neg, .int .u64 n, .int .i64 s] 32)).alloc (.cells #[.bool y, .slice A lq c, .slice B lf cb] 45))
      [(w.heap.size + 1, 0, .bool y), (w.heap.size + 1, 1, .slice A lq c), (w.heap.size + 1, 2, .slice B lf cb), (w.heap.size, 0, .bool neg), (w.heap.size, 1, .int .u64 n), (w.heap.size, 2, .int .i64 s)] (w.heap.size + 1) 3) :=
    ⟨Cells.box3 (Cells.box3 (Cells.nil _) rfl _ _ _ _) (by simp) _ _ _ _, fun o _ => free_box (by simp) _ _ _, by simp, ((Below.refl _ _).alloc (Nat.le_refl _) _).alloc (by simp) _⟩
  rcases hb with rfl | ⟨rfl, h0, h00⟩
  · go_enter Tryd.func54, Tryd.ntmps54
    go_wp2
    obtain ⟨W, hW⟩ : ∃ W, (w.alloc (.cells #[.bool false, .int .u64 n, .int .i64 s] 32)).alloc (.cells #[.bool y, .slice A lq c, .slice B lf cb] 45) = W := ⟨_, rfl⟩
    rw [hW] at HS ⊢
    clear hW
    have HS1 := Lib.hid (HS.out.call (below_drew (Below.refl _ _)))
    clear HS
    obtain ⟨a0, a1, a2, b0, b1, b2, -⟩ := HS1.out.cells
    have a0 : W.cell? _ = _ := a0
    have a1 : W.cell? _ = _ := a1
    have a2 : W.cell? _ = _ := a2
    have b0 : W.cell? _ = _ := b0
    have b1 : W.cell? _ = _ := b1
    have b2 : W.cell? _ = _ := b2
    first | (go_region_with (first | (go_at_call 20; (refine (HI.out _).mono ?_); rintro e w2 ⟨rfl, hb⟩; have HS2 := Lib.hid (HS1.out.call hb); obtain ⟨a02, a12, a22, b02, b12, b22, -⟩ := HS2.out.cells; clear hb) | (go_at_call 66; (refine (HN.out _).mono ?_); rintro e w3 ⟨u', v', rfl, hn, hn', hb⟩; have HS3 := Lib.hid (HS2.out.call hb); have HG3 := Lib.hid hn; have HG3' := Lib.hid hn'; obtain ⟨A3, c3, rfl⟩ := hn.slice; obtain ⟨A4, c4, rfl⟩ := hn'.slice; obtain ⟨a03, a13, a23, b03, b13, b23, -⟩ := HS3.out.cells; clear hn hn' hb) | (go_at_call 36; (refine (HC.out _ _ _ HG3.out.isNat HG3'.out.isNat (HU.out _ HS3.out.below) (HV.out _ HS3.out.below)).mono ?_); rintro e w4 ⟨rfl, hb⟩; have HS4 := Lib.hid (HS3.out.call hb); clear hb))) | fail "no"
    all_goals (go_wp2; go_ret; exact ⟨rfl, HS4.out.below⟩)
  · go_enter Tryd.func54, Tryd.ntmps54
    go_wp2
    obtain ⟨W, hW⟩ : ∃ W, (w.alloc (.cells #[.bool true, .int .u64 n, .int .i64 s] 32)).alloc (.cells #[.bool y, .slice A lq c, .slice B lf cb] 45) = W := ⟨_, rfl⟩
    rw [hW] at HS ⊢
    clear hW
    have HS1 := Lib.hid (HS.out.call (below_drew (Below.refl _ _)))
    clear HS
    go_region_held3 (fun W' => W'.cell? ⟨w.heap.size + 1, 0, none⟩ = some (.bool y) ∧ W'.cell? ⟨w.heap.size + 1, 1, none⟩ = some (.slice A lq c) ∧ W'.cell? ⟨w.heap.size + 1, 2, none⟩ = some (.slice B lf cb) ∧ W'.cell? ⟨w.heap.size, 0, none⟩ = some (.bool true) ∧ W'.cell? ⟨w.heap.size, 1, none⟩ = some (.int .u64 n) ∧ W'.cell? ⟨w.heap.size, 2, none⟩ = some (.int .i64 s))
      (first | exact (by have h := HS4.out.cells; exact ⟨h.1, h.2.1, h.2.2.1, h.2.2.2.1, h.2.2.2.2.1, h.2.2.2.2.2.1⟩) | exact (by have h := HS3.out.cells; exact ⟨h.1, h.2.1, h.2.2.1, h.2.2.2.1, h.2.2.2.2.1, h.2.2.2.2.2.1⟩) | exact (by have h := HS2.out.cells; exact ⟨h.1, h.2.1, h.2.2.1, h.2.2.2.1, h.2.2.2.2.1, h.2.2.2.2.2.1⟩) | exact (by have h := HS1.out.cells; exact ⟨h.1, h.2.1, h.2.2.1, h.2.2.2.1, h.2.2.2.2.1, h.2.2.2.2.2.1⟩) | go_keep)
      (first | (go_at_call 20; (refine (HI.out _).mono ?_); rintro e w2 ⟨rfl, hb⟩; have HS2 := Lib.hid (HS1.out.call hb); clear hb) | (go_at_call 66; (refine (HN.out _).mono ?_); rintro e w3 ⟨u', v', rfl, hn, hn', hb⟩; have HS3 := Lib.hid (HS2.out.call hb); have HG3 := Lib.hid hn; have HG3' := Lib.hid hn'; obtain ⟨A3, c3, rfl⟩ := hn.slice; obtain ⟨A4, c4, rfl⟩ := hn'.slice; clear hn hn' hb) | (go_at_call 36; (refine (HC.out _ _ _ HG3.out.isNat HG3'.out.isNat (HU.out _ HS3.out.below) (HV.out _ HS3.out.below)).mono ?_); rintro e w4 ⟨rfl, hb⟩; have HS4 := Lib.hid (HS3.out.call hb); clear hb))
    all_goals (go_wp2; go_ret; exact ⟨rfl, HS4.out.below⟩)
end Go.Proofs.YthkmgjkajllemaaDoor.Spec

/- FixSame, where it is so. -/
namespace Go.Proofs.YthkmgjkajllemaaDoor.Spec
open Go.RowKit Go.Proofs.YthkmgjkajllemaaDoorW.PrintWords Go.Proofs.YthkmgjkajllemaaDoor.Num Go.Proofs.YthkmgjkajllemaaDoor.Str Go.Proofs.YthkmgjkajllemaaDoor.Nats Go.Proofs.YthkmgjkajllemaaDoor.Val Go.Proofs.YthkmgjkajllemaaDoor.Arith Go.Proofs.YthkmgjkajllemaaDoor.NatOps Go.Proofs.YthkmgjkajllemaaDoor.Make
set_option linter.unusedVariables false
set_option linter.unusedSimpArgs false

set_option maxHeartbeats 4000000 in
set_option maxRecDepth 100000 in
/-- FixSame, where the decimal is the number with its places. -/
theorem fixSame_true (neg : Bool) (n s : Nat) (b0 : Nat) (u : Value) (w : World) (hn : n ≤ 9999999999999999999) (hs : s ≤ 19) (hneg : neg = true → 0 < n) (hu : IsNew w b0 u n) (hb0 : b0 ≤ w.heap.size) :
    Calls Tryd.prog 24 #[.agg #[.bool neg, .int .u64 n, .int .i64 s], .agg #[.bool (decide (fz neg n < 0)), u, .int .i64 (-(s : Int))]] w fun e w' => e = .returned (.bool true) ∧ Below w.heap.size w w' := by
  have hn3 := limbs_length 3 n (by omega)
  have hp3 := limbs_length 3 (10 ^ s) (Nat.lt_of_le_of_lt (Nat.pow_le_pow_right (by decide) hs) (by decide))
  have hq6 := limbs_length 6 (n * 10 ^ s) (by
    have h1 : 10 ^ s < 1000000000 ^ 3 := Nat.lt_of_le_of_lt (Nat.pow_le_pow_right (by decide) hs) (by decide)
    have h2 : n * 10 ^ s ≤ n * 1000000000 ^ 3 := Nat.mul_le_mul_left _ (Nat.le_of_lt h1)
    have h3 : n * 1000000000 ^ 3 < 1000000000 ^ 3 * 1000000000 ^ 3 := Nat.mul_lt_mul_of_pos_right (by omega) (by decide)
    rw [← Nat.pow_add] at h3
    omega)
  have HF := Lib.hid (fun W (h1 : IsNew W b0 u n) h2 => decFrac_any (fz neg n) s b0 u W (by rw [fz_abs]; exact h1) h2 (by omega) (by rw [fz_abs]; omega))
  have HH := Lib.hid (fun u' v' W (h1 : IsNat W u' n) h2 => fixHas_true neg n s (fz neg n) (10 ^ s) u' v' W hn hs hneg (by rw [fz_abs]; exact h1) h2 (by rw [fz_abs]; omega) (by omega) rfl (by rw [Int.natAbs_mul, fz_abs]; simp only [Int.natAbs_natCast]; omega))
  rw [fz_abs] at HF
  generalize decide (fz neg n < 0) = x at *
  have HU := Lib.hid (fun (W : World) (hb : Below w.heap.size w W) => hu.below hb)
  have HB0 := Lib.hid hb0
  obtain ⟨A, c, rfl⟩ := hu.slice
  have hw : IntKind.i64.wrap (s : Int) = (s : Int) := IntWalk.i64_in _ (by omega)
  have hnn : -(-(s : Int)) = (s : Int) := by omega
  clear hu hb0 hn3 hp3 hq6 hn hneg
  have HS : Hid (St w ((w.alloc (.cells #[.bool neg, .int .u64 n, .int .i64 s] 32)).alloc (.cells #[.bool x, .slice A (limbs n).length c, .int .i64 (-(s : Int))] 40))
      [(w.heap.size + 1, 0, .bool x), (w.heap.size + 1, 1, .slice A (limbs n).length c), (w.heap.size + 1, 2, .int .i64 (-(s : Int))), (w.heap.size, 0, .bool neg), (w.heap.size, 1, .int .u64 n), (w.heap.size, 2, .int .i64 s)] (w.heap.size + 1) 3) :=
    ⟨Cells.box3 (Cells.box3 (Cells.nil _) rfl _ _ _ _) (by simp) _ _ _ _, fun o _ => free_box (by simp) _ _ _, by simp, ((Below.refl _ _).alloc (Nat.le_refl _) _).alloc (by simp) _⟩
  go_enter Tryd.func24, Tryd.ntmps24
  go_wp2
  obtain ⟨W, hW⟩ : ∃ W, (w.alloc (.cells #[.bool neg, .int .u64 n, .int .i64 s] 32)).alloc (.cells #[.bool x, .slice A (limbs n).length c, .int .i64 (-(s : Int))] 40) = W := ⟨_, rfl⟩
  rw [hW] at HS ⊢
  clear hW
  have HS1 := Lib.hid (HS.out.call (below_drew (Below.refl _ _)))
  clear HS
  go_region_held3 (fun W' => W'.cell? ⟨w.heap.size + 1, 0, none⟩ = some (.bool x) ∧ W'.cell? ⟨w.heap.size + 1, 1, none⟩ = some (.slice A (limbs n).length c) ∧ W'.cell? ⟨w.heap.size + 1, 2, none⟩ = some (.int .i64 (-(s : Int))) ∧ W'.cell? ⟨w.heap.size, 0, none⟩ = some (.bool neg) ∧ W'.cell? ⟨w.heap.size, 1, none⟩ = some (.int .u64 n) ∧ W'.cell? ⟨w.heap.size, 2, none⟩ = some (.int .i64 s))
    (first | exact (by have h := HS3.out.cells; exact ⟨h.1, h.2.1, h.2.2.1, h.2.2.2.1, h.2.2.2.2.1, h.2.2.2.2.2.1⟩) | exact (by have h := HS2.out.cells; exact ⟨h.1, h.2.1, h.2.2.1, h.2.2.2.1, h.2.2.2.2.1, h.2.2.2.2.2.1⟩) | exact (by have h := HS1.out.cells; exact ⟨h.1, h.2.1, h.2.2.1, h.2.2.2.1, h.2.2.2.2.1, h.2.2.2.2.2.1⟩) | go_keep)
    (first | (go_at_call 30; (refine (HF.out _ (HU.out _ HS1.out.below) (Nat.le_trans HB0.out HS1.out.below.size)).mono ?_); rintro e w2 ⟨u', v', rfl, hn, hn', hb⟩; have HS2 := Lib.hid (HS1.out.call hb); have HG2 := Lib.hid hn; have HG2' := Lib.hid hn'; obtain ⟨A3, c3, rfl⟩ := hn.slice; obtain ⟨A4, c4, rfl⟩ := hn'.slice; clear hn hn' hb) | (go_at_call 54; (refine (HH.out _ _ _ HG2.out.isNat HG2'.out.isNat).mono ?_); rintro e w3 ⟨rfl, hb⟩; have HS3 := Lib.hid (HS2.out.call hb); clear hb))
  all_goals (go_wp2; go_ret; exact ⟨rfl, HS3.out.below⟩)
end Go.Proofs.YthkmgjkajllemaaDoor.Spec

/- Padded: the reference's decimal number with more places. -/
namespace Go.Proofs.YthkmgjkajllemaaDoor.Spec
open Go.RowKit Go.Proofs.YthkmgjkajllemaaDoorW.PrintWords Go.Proofs.YthkmgjkajllemaaDoorW.PrintMore Go.Proofs.YthkmgjkajllemaaDoor.Num Go.Proofs.YthkmgjkajllemaaDoor.Str Go.Proofs.YthkmgjkajllemaaDoor.Nats Go.Proofs.YthkmgjkajllemaaDoor.Val Go.Proofs.YthkmgjkajllemaaDoor.Arith Go.Proofs.YthkmgjkajllemaaDoor.NatOps Go.Proofs.YthkmgjkajllemaaDoor.Make Go.Proofs.YthkmgjkajllemaaDoor.Fint
attribute [local go_sem] max2_int min2_int max_two min_two max_three min_three
set_option linter.unusedVariables false
set_option linter.unusedSimpArgs false

theorem dg_ten (n : Nat) (hn : 0 < n) : dg (n * 10) = dg n + 1 := by
  obtain ⟨m, hm⟩ : ∃ m, n * 10 = m + 1 := ⟨n * 10 - 1, by omega⟩
  rw [hm, dg, ← hm, Nat.mul_div_cancel _ (by decide)]
theorem dg_shift (n e : Nat) (hn : 0 < n) : dg (n * 10 ^ e) = dg n + e := by
  induction e with
  | zero => simp
  | succ e ih =>
    rw [Nat.pow_succ, ← Nat.mul_assoc, dg_ten _ (Nat.mul_pos hn (Nat.pow_pos (by decide))), ih]
    rfl
/-- The number at hand: the one that came in, or one that the call has made. -/
def Held (wr : World) (g : Nat) (u0 u : Value) (m i : Nat) : Prop := (i = 0 ∧ u = u0) ∨ IsNew wr (g + 2) u m
theorem Held.nat {w wr : World} {b0 g : Nat} {u0 u : Value} {n m i : Nat} (h : Held wr g u0 u m i) (hu : IsNew w b0 u0 n) (hm : i = 0 → m = n) (hb : Below w.heap.size w wr) : IsNat wr u m := by
  rcases h with ⟨h1, rfl⟩ | h
  · rw [hm h1]; exact (hu.below hb).isNat
  · exact h.isNat
theorem Held.below {wr w1 : World} {g : Nat} {u0 u : Value} {m i : Nat} (h : Held wr g u0 u m i) (hb : Below wr.heap.size wr w1) : Held w1 g u0 u m i := h.imp id (fun h => h.below hb)

theorem set3_cells {W : World} {g : Nat} {a b c a' b' c' : Value} (h : C3 W g a b c) : Cells (((W.setCell ⟨g, 0, none⟩ a').setCell ⟨g, 1, none⟩ b').setCell ⟨g, 2, none⟩ c') [(g, 0, a'), (g, 1, b'), (g, 2, c')] := by
  have h0 := h.c0
  have h1 := h.c1
  have h2 := h.c2
  have f0 := h.f0
  have f1 := h.f1
  have f2 := h.f2
  have hl := h.lt
  refine ⟨?_, ?_, ?_, trivial⟩ <;> simp [go_sem, h0, h1, h2, f0, f1, f2, hl]
theorem Held.fin {w W : World} {b0 g : Nat} {u0 u : Value} {n m i : Nat} (h : Held W g u0 u m i) (hu : IsNew w b0 u0 n) (hb0 : b0 ≤ g + 2) (hm : i = 0 → m = n) (a b c : Value)
    (hF : Below w.heap.size w (((W.setCell ⟨g + 1, 0, none⟩ a).setCell ⟨g + 1, 1, none⟩ b).setCell ⟨g + 1, 2, none⟩ c)) : IsNew (((W.setCell ⟨g + 1, 0, none⟩ a).setCell ⟨g + 1, 1, none⟩ b).setCell ⟨g + 1, 2, none⟩ c) b0 u m := by
  rcases h with ⟨h1, rfl⟩ | h
  · rw [hm h1]; exact hu.below hF
  · exact (((h.set (p := ⟨g + 1, 0, none⟩) (Nat.lt_succ_self _) _).set (p := ⟨g + 1, 1, none⟩) (Nat.lt_succ_self _) _).set (p := ⟨g + 1, 2, none⟩) (Nat.lt_succ_self _) _).lower hb0
theorem Cells.far {W : World} {p : Addr} (v : Value) : ∀ {l : List (Nat × Nat × Value)}, (∀ x ∈ l, x.1 ≠ p.block) → Cells W l → Cells (W.setCell p v) l
  | [], _, _ => trivial
  | (b, o, u) :: l, hp, h => ⟨(World.cell?_setCell_far W p ⟨b, o, none⟩ v (fun e => hp (b, o, u) List.mem_cons_self e.symm)).trans h.1, Cells.far v (fun x hx => hp x (List.mem_cons_of_mem _ hx)) h.2⟩
theorem St.far {w W : World} {l : List (Nat × Nat × Value)} {g k : Nat} (h : St w W l g k) {p : Addr} (hp : ∀ x ∈ l, x.1 ≠ p.block) (hb : w.heap.size ≤ p.block) (v : Value) : St w (W.setCell p v) l g k :=
  ⟨h.cells.far v hp, fun o ho => by rw [← h.free o ho]; simp, by simpa using h.lt, h.below.setCell hb v⟩
theorem St.put3 {w W : World} {l : List (Nat × Nat × Value)} {g : Nat} {x y z : Value} (h : St w W [(g, 0, x), (g, 1, y), (g, 2, z)] g 3) (hb : w.heap.size ≤ g) (a b c : Value) : St w (((W.setCell ⟨g, 0, none⟩ a).setCell ⟨g, 1, none⟩ b).setCell ⟨g, 2, none⟩ c) [(g, 0, a), (g, 1, b), (g, 2, c)] g 3 :=
  ⟨set3_cells ⟨h.cells.1, h.cells.2.1, h.cells.2.2.1, h.free 0 (by omega), h.free 1 (by omega), h.free 2 (by omega), h.lt⟩, fun o ho => by rw [← h.free o ho]; simp, by simpa using h.lt, ((h.below.setCell (p := ⟨g, 0, none⟩) hb a).setCell (p := ⟨g, 1, none⟩) hb b).setCell (p := ⟨g, 2, none⟩) hb c⟩
theorem hb_any {w w1 : World} (h : Below w.heap.size w w1) : Below w.heap.size w w1 := h
set_option maxHeartbeats 8000000 in
set_option maxRecDepth 100000 in
theorem padded_any (x : Bool) (n s t k M g0 b0 : Nat) (z : Int) (u0 : Value) (w : World) (hu : IsNew w b0 u0 n) (hb0 : b0 ≤ w.heap.size) (hx : x = true → 0 < n) (hs : s ≤ 19) (hg : dg n = g0) (hg19 : g0 ≤ 19) (hM : M = 19 - g0 + s)
    (hz0 : -9223372036854775808 ≤ z) (hz1 : z ≤ 9223372036854775807) (hk1 : (if (19 : Int) < z then (19 : Int) else z) = (k : Int)) (hk19 : k ≤ 19) (ht : t = min k M) (hst : s ≤ t) :
    Calls Tryd.prog 73 #[.agg #[.bool x, u0, .int .i64 (-(s : Int))], .int .i64 z] w fun e w' => ∃ u, e = .returned (.agg #[.bool x, u, .int .i64 (-(t : Int))]) ∧ IsNew w' b0 u (n * 10 ^ (t - s)) ∧ Below w.heap.size w w' := by
  have HTen := Lib.hid (fun W => natFrom_new 10 W (by decide))
  rw [show ((10 : Nat) : Int) = 10 from rfl] at HTen
  have HU := Lib.hid hu
  have HB0 := Lib.hid hb0
  have HX := Lib.hid hx
  obtain ⟨A0, c0, rfl⟩ := hu.slice
  have HS : Hid (St w ((w.alloc (.cells #[.bool x, .slice A0 (limbs n).length c0, .int .i64 (-(s : Int))] 40)).alloc (.cells #[.bool false, .slice none 0 0, .int .i64 0] 40))
      [(w.heap.size + 1, 0, .bool false), (w.heap.size + 1, 1, .slice none 0 0), (w.heap.size + 1, 2, .int .i64 0)] (w.heap.size + 1) 3) :=
    ⟨Cells.box3 (Cells.nil _) (by simp) _ _ _ _, fun o _ => free_box (by simp) _ _ _, by simp, ((Below.refl _ _).alloc (Nat.le_refl _) _).alloc (by simp) _⟩
  have HT : Hid (St w ((w.alloc (.cells #[.bool x, .slice A0 (limbs n).length c0, .int .i64 (-(s : Int))] 40)).alloc (.cells #[.bool false, .slice none 0 0, .int .i64 0] 40))
      [(w.heap.size, 0, .bool x), (w.heap.size, 1, .slice A0 (limbs n).length c0), (w.heap.size, 2, .int .i64 (-(s : Int)))] w.heap.size 3) :=
    St.call ⟨Cells.box3 (Cells.nil _) rfl _ _ _ _, fun o _ => free_box rfl _ _ _, by simp, (Below.refl _ _).alloc (Nat.le_refl _) _⟩ ((Below.refl _ _).alloc (Nat.le_refl _) _)
  have HG := Lib.hid hg
  have HMM := Lib.hid hM
  have HTT := Lib.hid ht
  have htl : t ≤ 19 := by omega
  clear hu hb0 hx hg hM ht
  go_enter Tryd.func73, Tryd.ntmps73
  go_wp2
  go_loopg [5] (t - s + 1) (fun kq v5 wr => ∃ (e : Nat) (u : Value), s ≤ e ∧ e ≤ t ∧ Aside0 (kq = t - e + 1) ∧ Aside0 (Held wr w.heap.size (.slice A0 (limbs n).length c0) u (n * 10 ^ (e - s)) (e - s)) ∧ Aside0 (St w wr [(w.heap.size + 1, 0, .bool false), (w.heap.size + 1, 1, .slice none 0 0), (w.heap.size + 1, 2, .int .i64 0)] (w.heap.size + 1) 3) ∧ Aside0 (St w wr [(w.heap.size, 0, .bool x), (w.heap.size, 1, u), (w.heap.size, 2, .int .i64 (-(e : Int)))] w.heap.size 3))
  case atStart => exact ⟨s, _, Nat.le_refl _, hst, ⟨rfl⟩, ⟨.inl ⟨Nat.sub_self s, rfl⟩⟩, ⟨HS.out⟩, ⟨HT.out⟩⟩
  case round =>
    clear HS HT
    obtain ⟨e, u, hse, het, HK, HH, HS, HT⟩ := hrel
    have HN := Lib.hid (HH.out.nat HU.out (fun h => by rw [h, Nat.pow_zero, Nat.mul_one]) HS.out.below)
    obtain ⟨Au, cu, eu, _, _⟩ := HN.out
    subst eu
    obtain ⟨a0, a1, a2, -⟩ := HT.out.cells
    have hel : e ≤ 19 := by omega
    have HLn : Hid ((limbs (n * 10 ^ (e - s))).length < 4) := Lib.hid (by have h1 := dg_room n g0 (e - s) HG.out (by have := HMM.out; have := HTT.out; omega); have h2 := limbs_length 3 (n * 10 ^ (e - s)) (by omega); omega)
    by_cases hek : e < k
    · have hekb : decide ((e : Int) < (k : Int)) = true := decide_eq_true (by omega)
      have hekc : decide (e < k) = true := decide_eq_true hek
      have HM := Lib.hid (fun v W h1 h2 => natMul_any (.slice Au (limbs (n * 10 ^ (e - s))).length cu) v (n * 10 ^ (e - s)) 10 W h1 h2 (by have := HLn.out; omega) (by rw [limbs_one 10 (by omega) (by omega)]; simp))
      have HW := Lib.hid (fun r W hr => wholeMk_any x r (n * 10 ^ (e - s) * 10) W hr)
      rw [show (x && decide (0 < n * 10 ^ (e - s) * 10)) = x by cases hxx : x <;> simp; exact Nat.mul_pos (HX.out hxx) (Nat.pow_pos (by decide))] at HW
      have HNi := Lib.hid (fun (W : World) (h : Below wr.heap.size wr W) => (HN.out.below (hb_any h) : IsNat W (.slice Au (limbs (n * 10 ^ (e - s))).length cu) (n * 10 ^ (e - s))))
      go_upto_region 2 with (fail)
      go_cut [5] from 6 to 30 (fun v5 wc => ∃ (bb : Nat) (um : Value), v5 = .pointer (some ⟨bb, 0, none⟩) ∧ Aside0 (St w wc [(w.heap.size + 1, 0, .bool false), (w.heap.size + 1, 1, .slice none 0 0), (w.heap.size + 1, 2, .int .i64 0)] (w.heap.size + 1) 3) ∧ Aside0 (St w wc [(w.heap.size, 0, .bool x), (w.heap.size, 1, .slice Au (limbs (n * 10 ^ (e - s))).length cu), (w.heap.size, 2, .int .i64 (-(e : Int)))] w.heap.size 3) ∧ Aside0 (Cells wc [(bb, 0, .bool x), (bb, 1, um), (bb, 2, .int .i64 (-(e : Int) - 1))]) ∧ Aside0 (IsNew wc (w.heap.size + 2) um (n * 10 ^ (e - s) * 10)) ∧ Aside0 (Held wc w.heap.size (.slice A0 (limbs n).length c0) (.slice Au (limbs (n * 10 ^ (e - s))).length cu) (n * 10 ^ (e - s)) (e - s)) ∧ Aside0 (bb ≠ w.heap.size) ∧ Aside0 (bb ≠ w.heap.size + 1))
      case first =>
        have hw2 : IntKind.i64.wrap (-(e : Int) - 1) = -(e : Int) - 1 := IntWalk.i64_in _ (by omega)
        have HBD := Lib.hid (below_drew (Below.refl wr.heap.size wr))
        have hnr := Nat.ne_of_gt HT.out.lt
        have hgr : w.heap.size + 2 ≤ wr.heap.size := HS.out.lt
        have hlow : ∀ {q : Nat}, wr.heap.size ≤ q → w.heap.size + 2 ≤ q := fun h => Nat.le_trans hgr h
        have hnr1 := Nat.ne_of_gt HS.out.lt
        have a0 : wr.cell? _ = _ := a0
        have a1 : wr.cell? _ = _ := a1
        have a2 : wr.cell? _ = _ := a2
        have hneA : ∀ {q : Nat}, wr.heap.size ≤ q → q ≠ w.heap.size := fun h => by have := HT.out.lt; omega
        have hneB : ∀ {q : Nat}, wr.heap.size ≤ q → q ≠ w.heap.size + 1 := fun h => by have := HS.out.lt; omega
        clear HK hk1 hekb hekc hse het hst hel htl hek
        go_region_held3 (fun W' => W'.cell? ⟨w.heap.size, 0, none⟩ = some (.bool x) ∧ W'.cell? ⟨w.heap.size, 1, none⟩ = some (.slice Au (limbs (n * 10 ^ (e - s))).length cu) ∧ W'.cell? ⟨w.heap.size, 2, none⟩ = some (.int .i64 (-(e : Int))))
          (first | exact ⟨(HT.out.call (below_at HB4.out _)).cells.1, (HT.out.call (below_at HB4.out _)).cells.2.1, (HT.out.call (below_at HB4.out _)).cells.2.2.1⟩ | exact (by have h := (HT.out.call HB4.out).cells; exact ⟨h.1, h.2.1, h.2.2.1⟩) | exact (by have h := (HT.out.call HB3.out).cells; exact ⟨h.1, h.2.1, h.2.2.1⟩) | exact (by have h := (HT.out.call HB2.out).cells; exact ⟨h.1, h.2.1, h.2.2.1⟩) | go_keep)
          (first | (go_at_call 11; (refine (HTen.out _).mono ?_); rintro r w2 ⟨vt, rfl, hn2, hb⟩; (first | have HB2 := Lib.hid (below_by HBD.out hb) | (have HB2 := Lib.hid (below_by (below_drew (below_at (Below.refl wr.heap.size wr) _)) hb); have HC2 := Lib.hid (((C3.new wr _ _ _ _).below (below_drew (Below.refl _ _))).below hb)) | (have HB2 := Lib.hid (below_by (below_at HBD.out _) hb); have HC2 := Lib.hid (made3 hb).1)); have HN2 := Lib.hid hn2.isNat; obtain ⟨A2, c2, rfl⟩ := hn2.slice; have hne2 := Nat.ne_of_gt (Nat.lt_of_lt_of_le HT.out.lt HB2.out.size); clear hn2 hb) | (go_at_call 56; (first | (with_reducible refine (HM.out _ _ (HNi.out _ HB2.out) HN2.out).mono ?_) | (with_reducible refine (HM.out _ _ (HNi.out _ (below_at HB2.out _)) (HN2.out.below (below_at (Below.refl _ _) _))).mono ?_)); rintro r w3 ⟨vm, rfl, hn3, hb⟩; (first | (have HB3 := Lib.hid (below_by HB2.out hb); have HN3 := Lib.hid hn3; (first | have HC3 := Lib.hid (HC2.out.below hb) | skip)) | (have HB3 := Lib.hid (below_by (below_at HB2.out _) hb); have HN3 := Lib.hid hn3; have HC3 := Lib.hid (made3 hb).1)); obtain ⟨A3, c3, rfl⟩ := hn3.slice; have hne3 := Nat.ne_of_gt (Nat.lt_of_lt_of_le HT.out.lt HB3.out.size); clear hn3 hb) | (go_at_call 62; (first | (with_reducible refine (HW.out _ _ HN3.out.isNat).mono ?_) | (with_reducible refine (HW.out _ _ (HN3.out.alloc _).isNat).mono ?_)); rintro r w4 ⟨rfl, hb⟩; (first | (have HB4 := Lib.hid (below_by HB3.out hb); have HN4 := Lib.hid (HN3.out.below hb); have HB34 := Lib.hid hb; (first | have HC4 := HC3.out.below hb | skip)) | (have HB4 := Lib.hid (below_by (below_at HB3.out _) hb); have HN4 := Lib.hid ((HN3.out.alloc _).below hb); have HB34 := Lib.hid (below_by (below_at (Below.refl w3.heap.size w3) _) hb); have HC4 := (made3 hb).1)); (try obtain ⟨k0, k1, k2, f0, f1, f2, hlt⟩ := HC4); have hne4 := Nat.ne_of_gt (Nat.lt_of_lt_of_le HT.out.lt HB4.out.size); obtain ⟨t0, t1, t2, -⟩ := (HT.out.call HB4.out).cells; clear hb))
        all_goals (go_wp2_with fail)
        all_goals go_meet
        all_goals (first | exact ⟨w4.heap.size, _, rfl, ⟨HS.out.call (below_at HB4.out _)⟩, ⟨HT.out.call (below_at HB4.out _)⟩, ⟨Cells.box3 (Cells.nil _) rfl _ _ _ _⟩, ⟨(HN4.out.alloc _).lower (hlow HB2.out.size)⟩, ⟨HH.out.below (below_at HB4.out _)⟩, ⟨hneA (HB4.out.size)⟩, ⟨hneB (HB4.out.size)⟩⟩ | exact ⟨w3.heap.size, _, rfl, ⟨HS.out.call (((HB4.out.setCell (p := ⟨w3.heap.size, 0, none⟩) HB3.out.size _).setCell (p := ⟨w3.heap.size, 1, none⟩) HB3.out.size _).setCell (p := ⟨w3.heap.size, 2, none⟩) HB3.out.size _)⟩, ⟨HT.out.call (((HB4.out.setCell (p := ⟨w3.heap.size, 0, none⟩) HB3.out.size _).setCell (p := ⟨w3.heap.size, 1, none⟩) HB3.out.size _).setCell (p := ⟨w3.heap.size, 2, none⟩) HB3.out.size _)⟩, ⟨set3_cells ⟨k0, k1, k2, f0, f1, f2, hlt⟩⟩, ⟨(HN3.out.below (((HB34.out.setCell (p := ⟨w3.heap.size, 0, none⟩) (Nat.le_refl _) _).setCell (p := ⟨w3.heap.size, 1, none⟩) (Nat.le_refl _) _).setCell (p := ⟨w3.heap.size, 2, none⟩) (Nat.le_refl _) _)).lower (hlow HB2.out.size)⟩, ⟨HH.out.below (((HB4.out.setCell (p := ⟨w3.heap.size, 0, none⟩) HB3.out.size _).setCell (p := ⟨w3.heap.size, 1, none⟩) HB3.out.size _).setCell (p := ⟨w3.heap.size, 2, none⟩) HB3.out.size _)⟩, ⟨hneA (HB3.out.size)⟩, ⟨hneB (HB3.out.size)⟩⟩ | exact ⟨w2.heap.size, _, rfl, ⟨HS.out.call (((HB4.out.setCell (p := ⟨w2.heap.size, 0, none⟩) HB2.out.size _).setCell (p := ⟨w2.heap.size, 1, none⟩) HB2.out.size _).setCell (p := ⟨w2.heap.size, 2, none⟩) HB2.out.size _)⟩, ⟨HT.out.call (((HB4.out.setCell (p := ⟨w2.heap.size, 0, none⟩) HB2.out.size _).setCell (p := ⟨w2.heap.size, 1, none⟩) HB2.out.size _).setCell (p := ⟨w2.heap.size, 2, none⟩) HB2.out.size _)⟩, ⟨set3_cells ⟨k0, k1, k2, f0, f1, f2, hlt⟩⟩, ⟨(((HN4.out.set (p := ⟨w2.heap.size, 0, none⟩) (by simp) _).set (p := ⟨w2.heap.size, 1, none⟩) (by simp) _).set (p := ⟨w2.heap.size, 2, none⟩) (by simp) _).lower (hlow (below_at HB2.out _).size)⟩, ⟨HH.out.below (((HB4.out.setCell (p := ⟨w2.heap.size, 0, none⟩) HB2.out.size _).setCell (p := ⟨w2.heap.size, 1, none⟩) HB2.out.size _).setCell (p := ⟨w2.heap.size, 2, none⟩) HB2.out.size _)⟩, ⟨hneA (HB2.out.size)⟩, ⟨hneB (HB2.out.size)⟩⟩ | exact ⟨wr.heap.size, _, rfl, ⟨HS.out.call (((HB4.out.setCell (p := ⟨wr.heap.size, 0, none⟩) (Nat.le_refl _) _).setCell (p := ⟨wr.heap.size, 1, none⟩) (Nat.le_refl _) _).setCell (p := ⟨wr.heap.size, 2, none⟩) (Nat.le_refl _) _)⟩, ⟨HT.out.call (((HB4.out.setCell (p := ⟨wr.heap.size, 0, none⟩) (Nat.le_refl _) _).setCell (p := ⟨wr.heap.size, 1, none⟩) (Nat.le_refl _) _).setCell (p := ⟨wr.heap.size, 2, none⟩) (Nat.le_refl _) _)⟩, ⟨set3_cells ⟨k0, k1, k2, f0, f1, f2, hlt⟩⟩, ⟨(((HN4.out.set (p := ⟨wr.heap.size, 0, none⟩) HC2.out.lt _).set (p := ⟨wr.heap.size, 1, none⟩) HC2.out.lt _).set (p := ⟨wr.heap.size, 2, none⟩) HC2.out.lt _).lower (hlow HB2.out.size)⟩, ⟨HH.out.below (((HB4.out.setCell (p := ⟨wr.heap.size, 0, none⟩) (Nat.le_refl _) _).setCell (p := ⟨wr.heap.size, 1, none⟩) (Nat.le_refl _) _).setCell (p := ⟨wr.heap.size, 2, none⟩) (Nat.le_refl _) _)⟩, ⟨hneA (Nat.le_refl _)⟩, ⟨hneB (Nat.le_refl _)⟩⟩ | skip)
        go_goals
      case rest =>
        obtain ⟨bb, um, e5, HS1, HT1, HC1, HM1, HH1, hn0, hn1⟩ := hcut
        subst e5
        obtain ⟨Am, cm, eu⟩ := HM1.out.slice
        subst eu
        clear HM HW HNi HN HS HT HH hekb hekc a0 a1 a2
        have hl10 := limbs_length 3 (n * 10 ^ (e - s) * 10) (by have h1 := dg_room n g0 (e - s) HG.out (by have := HMM.out; have := HTT.out; omega); omega)
        have HDg := Lib.hid (fun W h => natDigits_any (n * 10 ^ (e - s) * 10) (.slice Am (limbs (n * 10 ^ (e - s) * 10)).length cm) W h (by omega))
        rw [dg_decs] at HDg
        obtain ⟨b0c, b1c, b2c, -⟩ := HC1.out
        by_cases hmore : e + 1 ≤ t
        · have hdg : dg (n * 10 ^ (e - s) * 10) ≤ 19 := by
            rw [dg_le]
            have h1 := dg_room n g0 (e + 1 - s) HG.out (by have := HMM.out; have := HTT.out; omega)
            rw [show e + 1 - s = (e - s) + 1 by omega, Nat.pow_succ, ← Nat.mul_assoc] at h1
            show ((n * 10 ^ (e - s) * 10 : Nat) : Int) < (10 : Int) ^ 19
            omega
          have hdb : decide ((19 : Int) < ((dg (n * 10 ^ (e - s) * 10) : Nat) : Int)) = false := decide_eq_false (by omega)
          have hdc : decide (19 < dg (n * 10 ^ (e - s) * 10)) = false := decide_eq_false (by omega)
          have HP : Hid (n * 10 ^ (e - s) * 10 = n * 10 ^ (e + 1 - s)) := Lib.hid (by rw [show e + 1 - s = (e - s) + 1 by omega, Nat.pow_succ, Nat.mul_assoc])
          have HE : Hid (-(e : Int) - 1 = -((e + 1 : Nat) : Int)) := Lib.hid (by omega)
          have HCk := Lib.hid HC1.out
          have HMo := Lib.hid hmore
          have hn0' := hn0.out
          have hn1' := hn1.out
          clear hdg hl10 hmore hek
          go_wp2_with (first | (go_at_call 13; go_must (refine (HDg.out _ HM1.out.isNat).mono ?_); rintro r w5 ⟨rfl, hb⟩; have HS5 := Lib.hid (HS1.out.call hb); have HT5 := Lib.hid (HT1.out.call hb); have HM5 := Lib.hid (HM1.out.below hb); have HC5 := Lib.hid (HCk.out.call hb); obtain ⟨k0, k1, k2, -⟩ := HC5.out; obtain ⟨t0, t1, t2, -⟩ := HT5.out.cells; have f0 := HT5.out.free 0 (by omega); have f1 := HT5.out.free 1 (by omega); have f2 := HT5.out.free 2 (by omega); have hz := HT5.out.lt; clear hb))
          cases gk with
          | zero => exact absurd HK.out (by omega)
          | succ kk =>
            go_roundg kk
            case measure => omega
            case rel => exact ⟨e + 1, _, by omega, HMo.out, ⟨by have := HK.out; have := HMo.out; omega⟩, ⟨.inr (by rw [← HP.out]; exact ((HM5.out.set (p := ⟨w.heap.size, 0, none⟩) (by show w.heap.size < w.heap.size + 2; omega) _).set (p := ⟨w.heap.size, 1, none⟩) (by show w.heap.size < w.heap.size + 2; omega) _).set (p := ⟨w.heap.size, 2, none⟩) (by show w.heap.size < w.heap.size + 2; omega) _)⟩, ⟨((HS5.out.far (p := ⟨w.heap.size, 0, none⟩) (by simp) (Nat.le_refl _) _).far (p := ⟨w.heap.size, 1, none⟩) (by simp) (Nat.le_refl _) _).far (p := ⟨w.heap.size, 2, none⟩) (by simp) (Nat.le_refl _) _⟩, ⟨by rw [← HE.out]; exact St.put3 (l := []) HT5.out (Nat.le_refl _) _ _ _⟩⟩
        · obtain rfl : e = t := by omega
          have hdb0 : dg (n * 10 ^ (e - s) * 10) = 20 := by
            have hM := HMM.out
            have hT := HTT.out
            have hnp : 0 < n := by
              rcases Nat.eq_zero_or_pos n with h | h
              · subst h
                have hG := HG.out
                rw [show dg 0 = 0 by rw [dg]] at hG
                omega
              · exact h
            rw [dg_ten _ (Nat.mul_pos hnp (Nat.pow_pos (by decide))), dg_shift _ _ hnp, HG.out]
            omega
          have hdb : decide ((19 : Int) < ((dg (n * 10 ^ (e - s) * 10) : Nat) : Int)) = true := decide_eq_true (by omega)
          have hdc : decide (19 < dg (n * 10 ^ (e - s) * 10)) = true := decide_eq_true (by omega)
          clear hdb0 hl10 hmore hek
          go_wp2_with (first | (go_at_call 13; go_must (refine (HDg.out _ HM1.out.isNat).mono ?_); rintro r w5 ⟨rfl, hb⟩; have HSF := Lib.hid (HS1.out.call hb); have HT5 := Lib.hid (HT1.out.call hb); have HHF := Lib.hid (HH1.out.below hb); obtain ⟨t0, t1, t2, -⟩ := HT5.out.cells; obtain ⟨r0, r1, r2, -⟩ := HSF.out.cells; have f0 := HSF.out.free 0 (by omega); have f1 := HSF.out.free 1 (by omega); have f2 := HSF.out.free 2 (by omega); have hz := HSF.out.lt; clear hb))
          exact bodyPost_ret (v := .agg #[.bool x, .slice Au (limbs (n * 10 ^ (e - s))).length cu, .int .i64 (-(e : Int))]) (by simp [results, Tryd.results73, go_sem, r0, r1, r2, f0, f1, f2, hz]) rfl ⟨_, rfl, HHF.out.fin HU.out (Nat.le_trans HB0.out (Nat.le_add_right _ _)) (fun h => by rw [h, Nat.pow_zero, Nat.mul_one]) _ _ _ (((HSF.out.below.setCell (p := ⟨w.heap.size + 1, 0, none⟩) (Nat.le_succ _) _).setCell (p := ⟨w.heap.size + 1, 1, none⟩) (Nat.le_succ _) _).setCell (p := ⟨w.heap.size + 1, 2, none⟩) (Nat.le_succ _) _), ((HSF.out.below.setCell (p := ⟨w.heap.size + 1, 0, none⟩) (Nat.le_succ _) _).setCell (p := ⟨w.heap.size + 1, 1, none⟩) (Nat.le_succ _) _).setCell (p := ⟨w.heap.size + 1, 2, none⟩) (Nat.le_succ _) _⟩
    · obtain rfl : e = t := by have := HTT.out; omega
      have hekb : decide ((e : Int) < (k : Int)) = false := decide_eq_false (by omega)
      have hekc : decide (e < k) = false := decide_eq_false hek
      obtain ⟨r0, r1, r2, -⟩ := HS.out.cells
      have f0 := HS.out.free 0 (by omega)
      have f1 := HS.out.free 1 (by omega)
      have f2 := HS.out.free 2 (by omega)
      have hz := HS.out.lt
      have HSF := Lib.hid HS.out
      have HHF := Lib.hid HH.out
      clear hek HN
      go_wp2
      exact bodyPost_ret (v := .agg #[.bool x, .slice Au (limbs (n * 10 ^ (e - s))).length cu, .int .i64 (-(e : Int))]) (by simp [results, Tryd.results73, go_sem, r0, r1, r2, f0, f1, f2, hz]) rfl ⟨_, rfl, HHF.out.fin HU.out (Nat.le_trans HB0.out (Nat.le_add_right _ _)) (fun h => by rw [h, Nat.pow_zero, Nat.mul_one]) _ _ _ (((HSF.out.below.setCell (p := ⟨w.heap.size + 1, 0, none⟩) (Nat.le_succ _) _).setCell (p := ⟨w.heap.size + 1, 1, none⟩) (Nat.le_succ _) _).setCell (p := ⟨w.heap.size + 1, 2, none⟩) (Nat.le_succ _) _), ((HSF.out.below.setCell (p := ⟨w.heap.size + 1, 0, none⟩) (Nat.le_succ _) _).setCell (p := ⟨w.heap.size + 1, 1, none⟩) (Nat.le_succ _) _).setCell (p := ⟨w.heap.size + 1, 2, none⟩) (Nat.le_succ _) _⟩
end Go.Proofs.YthkmgjkajllemaaDoor.Spec

/- gvScaled: a decimal rounded or padded to a scale, by the reference. -/
namespace Go.Proofs.YthkmgjkajllemaaDoor.Spec
open Go.RowKit Go.Proofs.YthkmgjkajllemaaDoorW.PrintWords Go.Proofs.YthkmgjkajllemaaDoorW.PrintMore Go.Proofs.YthkmgjkajllemaaDoor.Num Go.Proofs.YthkmgjkajllemaaDoor.Str Go.Proofs.YthkmgjkajllemaaDoor.Nats Go.Proofs.YthkmgjkajllemaaDoor.Val Go.Proofs.YthkmgjkajllemaaDoor.Arith Go.Proofs.YthkmgjkajllemaaDoor.NatOps Go.Proofs.YthkmgjkajllemaaDoor.Make Go.Proofs.YthkmgjkajllemaaDoor.Fint
attribute [local go_sem] max2_int min2_int max_two min_two max_three min_three
set_option linter.unusedVariables false
set_option linter.unusedSimpArgs false

theorem hb_le {w1 w2 : World} (h : Below w1.heap.size w1 w2) : w1.heap.size ≤ w1.heap.size := Nat.le_refl _
set_option maxHeartbeats 4000000 in
set_option maxRecDepth 100000 in
theorem gvScaled_round_neg (neg : Bool) (n s : Nat) (hn : n ≤ 9999999999999999999) (m : Nat) (z : Int) (w : World) (hs : s ≤ 19) (hz0 : z < 0) (hz1 : z ≥ -9223372036854775808) (ht : 0 < s) (hm : rq 5 (neg && decide (0 < n)) (n * 10 ^ 0) (10 ^ s) = m) :
    Calls Tryd.prog 38 #[.agg #[.bool neg, .int .u64 n, .int .i64 s], .int .i64 z] w fun e w' => ∃ u, e = .returned (.agg #[.bool (neg && decide (0 < n) && decide (0 < m)), u, .int .i64 0]) ∧ IsNew w' w.heap.size u m ∧ Below w.heap.size w w' := by
  have hl3 := limbs_length 3 n (by omega)
  have hp3 := limbs_length 3 (10 ^ s) (Nat.lt_of_le_of_lt (Nat.pow_le_pow_right (by decide) hs) (by decide))
  have HN := Lib.hid (fun W => fixNum_any neg n s W (by omega) (by omega))
  have HR := Lib.hid (fun u v W h1 h2 => round_any (neg && decide (0 < n)) n (10 ^ s) 0 5 u v W h1 h2 (Nat.pow_pos (by decide)) (by omega) (by omega) (by omega))
  rw [fz_neg] at HN
  rw [hm] at HR
  generalize (neg && decide (0 < n) && decide (0 < m)) = mb at *
  generalize (neg && decide (0 < n)) = nb at *
  rw [show ((0 : Nat) : Int) = 0 from rfl, show -(0 : Int) = 0 from rfl] at HR
  have hk1 : decide ((0 : Int) < (s : Int)) = true := decide_eq_true (by omega)
  have hk2 : decide (0 < s) = true := decide_eq_true ht
  have HS : Hid (St w ((w.alloc (.cells #[.bool neg, .int .u64 n, .int .i64 s] 32)).alloc (.cells #[.bool false, .slice none 0 0, .int .i64 0] 40))
      [(w.heap.size + 1, 0, .bool false), (w.heap.size + 1, 1, .slice none 0 0), (w.heap.size + 1, 2, .int .i64 0), (w.heap.size, 0, .bool neg), (w.heap.size, 1, .int .u64 n), (w.heap.size, 2, .int .i64 s)] (w.heap.size + 1) 3) :=
    ⟨Cells.box3 (Cells.box3 (Cells.nil _) rfl _ _ _ _) (by simp) _ _ _ _, fun o _ => free_box (by simp) _ _ _, by simp, ((Below.refl _ _).alloc (Nat.le_refl _) _).alloc (by simp) _⟩
  have hne1 : w.heap.size + 1 ≠ w.heap.size := by omega
  clear hn hm hs ht hl3 hp3
  go_enter Tryd.func38, Tryd.ntmps38
  go_wp2_with (first | (go_at_call 66; go_must (refine (HN.out _).mono ?_); rintro e w4 ⟨u4, v4, rfl, hu4, hv4, hb⟩; have HS4 := Lib.hid (HS.out.call hb); have HU4 := Lib.hid hu4.isNat; have HV4 := Lib.hid hv4.isNat; have HZ4 := Lib.hid HS4.out.lt; have HLE4 := Lib.hid HS4.out.below.size; clear hu4 hv4 hb) | (go_at_call 26; go_must (refine (HR.out _ _ _ HU4.out HV4.out).mono ?_); rintro e w5 ⟨r, rfl, hn5, hb⟩; have HS5 := Lib.hid (HS4.out.call hb); have HN5 := Lib.hid hn5; obtain ⟨A5, c5, rfl⟩ := hn5.slice; obtain ⟨r0, r1, r2, a05, a15, a25, -⟩ := HS5.out.cells; have f0 := HS5.out.free 0 (by omega); have f1 := HS5.out.free 1 (by omega); have f2 := HS5.out.free 2 (by omega); have hz := HS5.out.lt; clear hn5 hb))
  exact bodyPost_ret (v := .agg #[.bool mb, .slice A5 (limbs (m)).length c5, .int .i64 0]) (by simp [results, Tryd.results38, go_sem, r0, r1, r2, f0, f1, f2, hz]) rfl ⟨_, rfl, (((HN5.out.set (p := ⟨w.heap.size + 1, 0, none⟩) HZ4.out _).set (p := ⟨w.heap.size + 1, 1, none⟩) HZ4.out _).set (p := ⟨w.heap.size + 1, 2, none⟩) HZ4.out _).lower HLE4.out, ((HS5.out.below.setCell (p := ⟨w.heap.size + 1, 0, none⟩) (Nat.le_succ _) _).setCell (p := ⟨w.heap.size + 1, 1, none⟩) (Nat.le_succ _) _).setCell (p := ⟨w.heap.size + 1, 2, none⟩) (Nat.le_succ _) _⟩
set_option maxHeartbeats 4000000 in
set_option maxRecDepth 100000 in
theorem gvScaled_round_nat (neg : Bool) (n s : Nat) (hn : n ≤ 9999999999999999999) (m t : Nat) (w : World) (hs : s ≤ 19) (ht : t < s) (hm : rq 5 (neg && decide (0 < n)) (n * 10 ^ t) (10 ^ s) = m) :
    Calls Tryd.prog 38 #[.agg #[.bool neg, .int .u64 n, .int .i64 s], .int .i64 (t : Int)] w fun e w' => ∃ u, e = .returned (.agg #[.bool (neg && decide (0 < n) && decide (0 < m)), u, .int .i64 (-(t : Int))]) ∧ IsNew w' w.heap.size u m ∧ Below w.heap.size w w' := by
  have hl3 := limbs_length 3 n (by omega)
  have hp3 := limbs_length 3 (10 ^ s) (Nat.lt_of_le_of_lt (Nat.pow_le_pow_right (by decide) hs) (by decide))
  have HN := Lib.hid (fun W => fixNum_any neg n s W (by omega) (by omega))
  have HR := Lib.hid (fun u v W h1 h2 => round_any (neg && decide (0 < n)) n (10 ^ s) t 5 u v W h1 h2 (Nat.pow_pos (by decide)) (by omega) (by omega) (by omega))
  rw [fz_neg] at HN
  rw [hm] at HR
  generalize (neg && decide (0 < n) && decide (0 < m)) = mb at *
  generalize (neg && decide (0 < n)) = nb at *
  have hk0 : ¬ ((t : Int) < 0) := by omega
  have hk1 : decide ((t : Int) < (s : Int)) = true := decide_eq_true (by omega)
  have hk2 : decide (t < s) = true := decide_eq_true ht
  have hkm : t ≤ 19 := by omega
  have HS : Hid (St w ((w.alloc (.cells #[.bool neg, .int .u64 n, .int .i64 s] 32)).alloc (.cells #[.bool false, .slice none 0 0, .int .i64 0] 40))
      [(w.heap.size + 1, 0, .bool false), (w.heap.size + 1, 1, .slice none 0 0), (w.heap.size + 1, 2, .int .i64 0), (w.heap.size, 0, .bool neg), (w.heap.size, 1, .int .u64 n), (w.heap.size, 2, .int .i64 s)] (w.heap.size + 1) 3) :=
    ⟨Cells.box3 (Cells.box3 (Cells.nil _) rfl _ _ _ _) (by simp) _ _ _ _, fun o _ => free_box (by simp) _ _ _, by simp, ((Below.refl _ _).alloc (Nat.le_refl _) _).alloc (by simp) _⟩
  have hne1 : w.heap.size + 1 ≠ w.heap.size := by omega
  clear hn hm hs ht hl3 hp3
  go_enter Tryd.func38, Tryd.ntmps38
  go_wp2_with (first | (go_at_call 66; go_must (refine (HN.out _).mono ?_); rintro e w4 ⟨u4, v4, rfl, hu4, hv4, hb⟩; have HS4 := Lib.hid (HS.out.call hb); have HU4 := Lib.hid hu4.isNat; have HV4 := Lib.hid hv4.isNat; have HZ4 := Lib.hid HS4.out.lt; have HLE4 := Lib.hid HS4.out.below.size; clear hu4 hv4 hb) | (go_at_call 26; go_must (refine (HR.out _ _ _ HU4.out HV4.out).mono ?_); rintro e w5 ⟨r, rfl, hn5, hb⟩; have HS5 := Lib.hid (HS4.out.call hb); have HN5 := Lib.hid hn5; obtain ⟨A5, c5, rfl⟩ := hn5.slice; obtain ⟨r0, r1, r2, a05, a15, a25, -⟩ := HS5.out.cells; have f0 := HS5.out.free 0 (by omega); have f1 := HS5.out.free 1 (by omega); have f2 := HS5.out.free 2 (by omega); have hz := HS5.out.lt; clear hn5 hb))
  exact bodyPost_ret (v := .agg #[.bool mb, .slice A5 (limbs (m)).length c5, .int .i64 (-(t : Int))]) (by simp [results, Tryd.results38, go_sem, r0, r1, r2, f0, f1, f2, hz]) rfl ⟨_, rfl, (((HN5.out.set (p := ⟨w.heap.size + 1, 0, none⟩) HZ4.out _).set (p := ⟨w.heap.size + 1, 1, none⟩) HZ4.out _).set (p := ⟨w.heap.size + 1, 2, none⟩) HZ4.out _).lower HLE4.out, ((HS5.out.below.setCell (p := ⟨w.heap.size + 1, 0, none⟩) (Nat.le_succ _) _).setCell (p := ⟨w.heap.size + 1, 1, none⟩) (Nat.le_succ _) _).setCell (p := ⟨w.heap.size + 1, 2, none⟩) (Nat.le_succ _) _⟩
set_option maxHeartbeats 4000000 in
set_option maxRecDepth 100000 in
theorem gvScaled_pad_neg (neg : Bool) (n s t : Nat) (hn : n ≤ 9999999999999999999) (z : Int) (w : World) (hs : s = 0) (hz0 : z < 0) (hz1 : z ≥ -9223372036854775808) (ht : t = 0) :
    Calls Tryd.prog 38 #[.agg #[.bool neg, .int .u64 n, .int .i64 s], .int .i64 z] w fun e w' => ∃ u, e = .returned (.agg #[.bool (neg && decide (0 < n)), u, .int .i64 (-(t : Int))]) ∧ IsNew w' w.heap.size u (n * 10 ^ (t - s)) ∧ Below w.heap.size w w' := by
  have hg19 : dg n ≤ 19 := by
    rw [dg_le]
    show (n : Int) < (10 : Int) ^ 19
    omega
  have HD := Lib.hid (fun W => fixDec_any neg n s W (by omega) (by omega))
  have HP := Lib.hid (fun u b0 W h1 h2 => padded_any (neg && decide (0 < n)) n s t 0 (19 - dg n + s) (dg n) b0 0 u W h1 h2 (by simp) (by omega) rfl hg19 rfl (by omega) (by omega) (by rw [if_neg (by omega)]; rfl) (by omega) (by omega) (by omega))
  rw [fz_neg] at HD
  generalize (neg && decide (0 < n)) = nb at *
  subst hs
  subst ht
  rw [show ((0 : Nat) : Int) = 0 from rfl, show -(0 : Int) = 0 from rfl] at HD HP
  rw [show ((0 : Nat) : Int) = 0 from rfl, show -(0 : Int) = 0 from rfl]
  have HS : Hid (St w ((w.alloc (.cells #[.bool neg, .int .u64 n, .int .i64 0] 32)).alloc (.cells #[.bool false, .slice none 0 0, .int .i64 0] 40))
      [(w.heap.size + 1, 0, .bool false), (w.heap.size + 1, 1, .slice none 0 0), (w.heap.size + 1, 2, .int .i64 0), (w.heap.size, 0, .bool neg), (w.heap.size, 1, .int .u64 n), (w.heap.size, 2, .int .i64 0)] (w.heap.size + 1) 3) :=
    ⟨Cells.box3 (Cells.box3 (Cells.nil _) rfl _ _ _ _) (by simp) _ _ _ _, fun o _ => free_box (by simp) _ _ _, by simp, ((Below.refl _ _).alloc (Nat.le_refl _) _).alloc (by simp) _⟩
  have hne1 : w.heap.size + 1 ≠ w.heap.size := by omega
  clear hn hg19
  go_enter Tryd.func38, Tryd.ntmps38
  go_wp2_with (first | (go_at_call 65; go_must (refine (HD.out _).mono ?_); rintro e w4 ⟨u4, rfl, hu4, hb⟩; have HS4 := Lib.hid (HS.out.call hb); have HU4 := Lib.hid (hu4.lower (hb_le hb)); have HZ4 := Lib.hid HS4.out.lt; have HLE4 := Lib.hid HS.out.below.size; have HLT := Lib.hid HS.out.lt; have HL4 := Lib.hid hb.size; clear hu4 hb) | (go_at_call 73; go_must (refine (HP.out _ _ _ HU4.out HL4.out).mono ?_); rintro e w5 ⟨r, rfl, hn5, hb⟩; have HS5 := Lib.hid (HS4.out.call hb); have HN5 := Lib.hid hn5; obtain ⟨A5, c5, rfl⟩ := hn5.slice; obtain ⟨r0, r1, r2, a05, a15, a25, -⟩ := HS5.out.cells; have f0 := HS5.out.free 0 (by omega); have f1 := HS5.out.free 1 (by omega); have f2 := HS5.out.free 2 (by omega); have hz := HS5.out.lt; clear hn5 hb))
  exact bodyPost_ret (v := .agg #[.bool nb, .slice A5 (limbs (n * 10 ^ (0 - 0))).length c5, .int .i64 0]) (by simp [results, Tryd.results38, go_sem, r0, r1, r2, f0, f1, f2, hz]) rfl ⟨_, rfl, (((HN5.out.set (p := ⟨w.heap.size + 1, 0, none⟩) HLT.out _).set (p := ⟨w.heap.size + 1, 1, none⟩) HLT.out _).set (p := ⟨w.heap.size + 1, 2, none⟩) HLT.out _).lower HLE4.out, ((HS5.out.below.setCell (p := ⟨w.heap.size + 1, 0, none⟩) (Nat.le_succ _) _).setCell (p := ⟨w.heap.size + 1, 1, none⟩) (Nat.le_succ _) _).setCell (p := ⟨w.heap.size + 1, 2, none⟩) (Nat.le_succ _) _⟩
set_option maxHeartbeats 4000000 in
set_option maxRecDepth 100000 in
theorem gvScaled_pad_nat (neg : Bool) (n s t : Nat) (hn : n ≤ 9999999999999999999) (k : Nat) (w : World) (hs : s ≤ 19) (hk : s ≤ k) (hkm : k ≤ 9223372036854775807) (ht : t = min (min k 19) (19 - dg n + s)) :
    Calls Tryd.prog 38 #[.agg #[.bool neg, .int .u64 n, .int .i64 s], .int .i64 (k : Int)] w fun e w' => ∃ u, e = .returned (.agg #[.bool (neg && decide (0 < n)), u, .int .i64 (-(t : Int))]) ∧ IsNew w' w.heap.size u (n * 10 ^ (t - s)) ∧ Below w.heap.size w w' := by
  have hg19 : dg n ≤ 19 := by
    rw [dg_le]
    show (n : Int) < (10 : Int) ^ 19
    omega
  have HD := Lib.hid (fun W => fixDec_any neg n s W (by omega) (by omega))
  have HP := Lib.hid (fun u b0 W h1 h2 => padded_any (neg && decide (0 < n)) n s t (min k 19) (19 - dg n + s) (dg n) b0 (k : Int) u W h1 h2 (by simp) (by omega) rfl hg19 rfl (by omega) (by omega) (by split <;> omega) (by omega) (by omega) (by omega))
  rw [fz_neg] at HD
  generalize (neg && decide (0 < n)) = nb at *
  have hk0 : ¬ ((k : Int) < 0) := by omega
  have hk1 : decide ((k : Int) < (s : Int)) = false := decide_eq_false (by omega)
  have hk2 : decide (k < s) = false := decide_eq_false (by omega)
  clear hs hk ht
  have HS : Hid (St w ((w.alloc (.cells #[.bool neg, .int .u64 n, .int .i64 s] 32)).alloc (.cells #[.bool false, .slice none 0 0, .int .i64 0] 40))
      [(w.heap.size + 1, 0, .bool false), (w.heap.size + 1, 1, .slice none 0 0), (w.heap.size + 1, 2, .int .i64 0), (w.heap.size, 0, .bool neg), (w.heap.size, 1, .int .u64 n), (w.heap.size, 2, .int .i64 s)] (w.heap.size + 1) 3) :=
    ⟨Cells.box3 (Cells.box3 (Cells.nil _) rfl _ _ _ _) (by simp) _ _ _ _, fun o _ => free_box (by simp) _ _ _, by simp, ((Below.refl _ _).alloc (Nat.le_refl _) _).alloc (by simp) _⟩
  have hne1 : w.heap.size + 1 ≠ w.heap.size := by omega
  clear hn hg19
  go_enter Tryd.func38, Tryd.ntmps38
  go_wp2_with (first | (go_at_call 65; go_must (refine (HD.out _).mono ?_); rintro e w4 ⟨u4, rfl, hu4, hb⟩; have HS4 := Lib.hid (HS.out.call hb); have HU4 := Lib.hid (hu4.lower (hb_le hb)); have HZ4 := Lib.hid HS4.out.lt; have HLE4 := Lib.hid HS.out.below.size; have HLT := Lib.hid HS.out.lt; have HL4 := Lib.hid hb.size; clear hu4 hb) | (go_at_call 73; go_must (refine (HP.out _ _ _ HU4.out HL4.out).mono ?_); rintro e w5 ⟨r, rfl, hn5, hb⟩; have HS5 := Lib.hid (HS4.out.call hb); have HN5 := Lib.hid hn5; obtain ⟨A5, c5, rfl⟩ := hn5.slice; obtain ⟨r0, r1, r2, a05, a15, a25, -⟩ := HS5.out.cells; have f0 := HS5.out.free 0 (by omega); have f1 := HS5.out.free 1 (by omega); have f2 := HS5.out.free 2 (by omega); have hz := HS5.out.lt; clear hn5 hb))
  exact bodyPost_ret (v := .agg #[.bool nb, .slice A5 (limbs (n * 10 ^ (t - s))).length c5, .int .i64 (-(t : Int))]) (by simp [results, Tryd.results38, go_sem, r0, r1, r2, f0, f1, f2, hz]) rfl ⟨_, rfl, (((HN5.out.set (p := ⟨w.heap.size + 1, 0, none⟩) HLT.out _).set (p := ⟨w.heap.size + 1, 1, none⟩) HLT.out _).set (p := ⟨w.heap.size + 1, 2, none⟩) HLT.out _).lower HLE4.out, ((HS5.out.below.setCell (p := ⟨w.heap.size + 1, 0, none⟩) (Nat.le_succ _) _).setCell (p := ⟨w.heap.size + 1, 1, none⟩) (Nat.le_succ _) _).setCell (p := ⟨w.heap.size + 1, 2, none⟩) (Nat.le_succ _) _⟩
end Go.Proofs.YthkmgjkajllemaaDoor.Spec

/- gvTo: a decimal beside another one that is rounded to a scale. -/
namespace Go.Proofs.YthkmgjkajllemaaDoor.Spec
open Go.RowKit Go.Proofs.YthkmgjkajllemaaDoorW.PrintWords Go.Proofs.YthkmgjkajllemaaDoorW.PrintMore Go.Proofs.YthkmgjkajllemaaDoor.Num Go.Proofs.YthkmgjkajllemaaDoor.Str Go.Proofs.YthkmgjkajllemaaDoor.Nats Go.Proofs.YthkmgjkajllemaaDoor.Val Go.Proofs.YthkmgjkajllemaaDoor.Arith Go.Proofs.YthkmgjkajllemaaDoor.NatOps Go.Proofs.YthkmgjkajllemaaDoor.Make
attribute [local go_sem] max2_int min2_int max_two min_two max_three min_three
set_option linter.unusedVariables false
set_option linter.unusedSimpArgs false

set_option maxHeartbeats 2000000 in
set_option maxRecDepth 100000 in
theorem gvTo_stay_neg (neg : Bool) (n s : Nat) (hn : n ≤ 9999999999999999999) (z : Int) (way : Int) (w : World) (hs : s = 0) (hz0 : z < 0) (hz1 : z ≥ -9223372036854775808) :
    Calls Tryd.prog 28 #[.agg #[.bool neg, .int .u64 n, .int .i64 s], .agg #[.bool (neg && decide (0 < n)), .int .u64 n, .int .i64 s], .int .i64 0, .int .i64 z, .int .i64 way] w fun e w' => e = .returned (.bool true) ∧ Below w.heap.size w w' := by
  have HD := Lib.hid (fun W => fixDec_any neg n s W (by omega) (by omega))
  have HSm := Lib.hid (fun u b0 W h1 h2 => fixSame_true (neg && decide (0 < n)) n s b0 u W hn (by omega) (by simp) h1 h2)
  rw [fz_neg] at HD
  rw [fz_neg, show (neg && decide (0 < n) && decide (0 < n)) = (neg && decide (0 < n)) by cases neg <;> simp] at HSm
  generalize (neg && decide (0 < n)) = nb at *
  subst hs
  rw [show ((0 : Nat) : Int) = 0 from rfl, show -(0 : Int) = 0 from rfl] at HD HSm
  rw [show ((0 : Nat) : Int) = 0 from rfl]
  have HS : Hid (St w ((w.alloc (.cells #[.bool neg, .int .u64 n, .int .i64 0] 32)).alloc (.cells #[.bool nb, .int .u64 n, .int .i64 0] 32))
      [(w.heap.size + 1, 0, .bool nb), (w.heap.size + 1, 1, .int .u64 n), (w.heap.size + 1, 2, .int .i64 0), (w.heap.size, 0, .bool neg), (w.heap.size, 1, .int .u64 n), (w.heap.size, 2, .int .i64 0)] (w.heap.size + 1) 3) :=
    ⟨Cells.box3 (Cells.box3 (Cells.nil _) rfl _ _ _ _) (by simp) _ _ _ _, fun o _ => free_box (by simp) _ _ _, by simp, ((Below.refl _ _).alloc (Nat.le_refl _) _).alloc (by simp) _⟩
  clear hn
  go_enter Tryd.func28, Tryd.ntmps28
  go_wp2_with (first | (go_at_call 65; go_must (refine (HD.out _).mono ?_); rintro e w2 ⟨u, rfl, hn2, hb⟩; have HS2 := Lib.hid (HS.out.call hb); have HL2 := Lib.hid hb.size; obtain ⟨A2, c2, rfl⟩ := hn2.slice; have HO3 := Lib.hid (below_at (Below.refl w2.heap.size w2) (.cells #[.bool nb, .slice A2 (limbs n).length c2, .int .i64 0] 40)); have HS3 := Lib.hid (HS2.out.call HO3.out); have HN3 := Lib.hid (hn2.below HO3.out); obtain ⟨d03, d13, d23, a03, a13, a23, -⟩ := HS3.out.cells; have hne := Nat.ne_of_lt HS2.out.lt; clear hn2 hb) | (go_at_call 24; go_must (refine (HSm.out _ _ _ HN3.out (Nat.le_trans HL2.out HO3.out.size)).mono ?_); rintro e w4 ⟨rfl, hb⟩; have HS4 := Lib.hid (HS3.out.call hb); clear hb))
  go_ret
  exact ⟨rfl, HS4.out.below⟩
set_option maxHeartbeats 2000000 in
set_option maxRecDepth 100000 in
theorem gvTo_stay_nat (neg : Bool) (n s : Nat) (hn : n ≤ 9999999999999999999) (k : Nat) (way : Int) (w : World) (hs : s ≤ 19) (hk : s ≤ k) (hkm : k ≤ 9223372036854775807) :
    Calls Tryd.prog 28 #[.agg #[.bool neg, .int .u64 n, .int .i64 s], .agg #[.bool (neg && decide (0 < n)), .int .u64 n, .int .i64 s], .int .i64 0, .int .i64 (k : Int), .int .i64 way] w fun e w' => e = .returned (.bool true) ∧ Below w.heap.size w w' := by
  have HD := Lib.hid (fun W => fixDec_any neg n s W (by omega) (by omega))
  have HSm := Lib.hid (fun u b0 W h1 h2 => fixSame_true (neg && decide (0 < n)) n s b0 u W hn (by omega) (by simp) h1 h2)
  rw [fz_neg] at HD
  rw [fz_neg, show (neg && decide (0 < n) && decide (0 < n)) = (neg && decide (0 < n)) by cases neg <;> simp] at HSm
  generalize (neg && decide (0 < n)) = nb at *
  have hk0 : ¬ ((k : Int) < 0) := by omega
  have hk1 : decide ((k : Int) < (s : Int)) = false := decide_eq_false (by omega)
  have hk2 : decide (k < s) = false := decide_eq_false (by omega)
  clear hs hk
  have HS : Hid (St w ((w.alloc (.cells #[.bool neg, .int .u64 n, .int .i64 s] 32)).alloc (.cells #[.bool nb, .int .u64 n, .int .i64 s] 32))
      [(w.heap.size + 1, 0, .bool nb), (w.heap.size + 1, 1, .int .u64 n), (w.heap.size + 1, 2, .int .i64 s), (w.heap.size, 0, .bool neg), (w.heap.size, 1, .int .u64 n), (w.heap.size, 2, .int .i64 s)] (w.heap.size + 1) 3) :=
    ⟨Cells.box3 (Cells.box3 (Cells.nil _) rfl _ _ _ _) (by simp) _ _ _ _, fun o _ => free_box (by simp) _ _ _, by simp, ((Below.refl _ _).alloc (Nat.le_refl _) _).alloc (by simp) _⟩
  clear hn
  go_enter Tryd.func28, Tryd.ntmps28
  go_wp2_with (first | (go_at_call 65; go_must (refine (HD.out _).mono ?_); rintro e w2 ⟨u, rfl, hn2, hb⟩; have HS2 := Lib.hid (HS.out.call hb); have HL2 := Lib.hid hb.size; obtain ⟨A2, c2, rfl⟩ := hn2.slice; have HO3 := Lib.hid (below_at (Below.refl w2.heap.size w2) (.cells #[.bool nb, .slice A2 (limbs n).length c2, .int .i64 (-(s : Int))] 40)); have HS3 := Lib.hid (HS2.out.call HO3.out); have HN3 := Lib.hid (hn2.below HO3.out); obtain ⟨d03, d13, d23, a03, a13, a23, -⟩ := HS3.out.cells; have hne := Nat.ne_of_lt HS2.out.lt; clear hn2 hb) | (go_at_call 24; go_must (refine (HSm.out _ _ _ HN3.out (Nat.le_trans HL2.out HO3.out.size)).mono ?_); rintro e w4 ⟨rfl, hb⟩; have HS4 := Lib.hid (HS3.out.call hb); clear hb))
  go_ret
  exact ⟨rfl, HS4.out.below⟩
set_option maxHeartbeats 4000000 in
set_option maxRecDepth 100000 in
theorem gvTo_round_neg (neg : Bool) (n s : Nat) (hn : n ≤ 9999999999999999999) (m : Nat) (z : Int) (way : Int) (w : World) (hs : s ≤ 19) (hz0 : z < 0) (hz1 : z ≥ -9223372036854775808) (ht : 0 < s) (hm : rq way (neg && decide (0 < n)) (n * 10 ^ 0) (10 ^ s) = m) (hml : m ≤ 9999999999999999999) :
    Calls Tryd.prog 28 #[.agg #[.bool neg, .int .u64 n, .int .i64 s], .agg #[.bool (neg && decide (0 < n) && decide (0 < m)), .int .u64 m, .int .i64 0], .int .i64 0, .int .i64 z, .int .i64 way] w fun e w' => e = .returned (.bool true) ∧ Below w.heap.size w w' := by
  have hl3 := limbs_length 3 n (by omega)
  have hp3 := limbs_length 3 (10 ^ s) (Nat.lt_of_le_of_lt (Nat.pow_le_pow_right (by decide) hs) (by decide))
  have HD := Lib.hid (fun W => fixDec_any neg n s W (by omega) (by omega))
  have HN := Lib.hid (fun W => fixNum_any neg n s W (by omega) (by omega))
  have HR := Lib.hid (fun u v W h1 h2 => round_any (neg && decide (0 < n)) n (10 ^ s) 0 way u v W h1 h2 (Nat.pow_pos (by decide)) (by omega) (by omega) (by omega))
  have HSm := Lib.hid (fun u b0 W h1 h2 => fixSame_true (neg && decide (0 < n) && decide (0 < m)) m 0 b0 u W hml (by omega) (by simp) h1 h2)
  rw [fz_neg] at HD HN
  rw [hm] at HR
  rw [fz_neg, show (neg && decide (0 < n) && decide (0 < m) && decide (0 < m)) = (neg && decide (0 < n) && decide (0 < m)) by cases decide (0 < m) <;> simp] at HSm
  generalize (neg && decide (0 < n) && decide (0 < m)) = mb at *
  generalize (neg && decide (0 < n)) = nb at *
  rw [show ((0 : Nat) : Int) = 0 from rfl, show -(0 : Int) = 0 from rfl] at HR HSm
  have hk1 : decide ((0 : Int) < (s : Int)) = true := decide_eq_true (by omega)
  have hk2 : decide (0 < s) = true := decide_eq_true ht
  have HS : Hid (St w ((w.alloc (.cells #[.bool neg, .int .u64 n, .int .i64 s] 32)).alloc (.cells #[.bool mb, .int .u64 m, .int .i64 0] 32))
      [(w.heap.size + 1, 0, .bool mb), (w.heap.size + 1, 1, .int .u64 m), (w.heap.size + 1, 2, .int .i64 0), (w.heap.size, 0, .bool neg), (w.heap.size, 1, .int .u64 n), (w.heap.size, 2, .int .i64 s)] (w.heap.size + 1) 3) :=
    ⟨Cells.box3 (Cells.box3 (Cells.nil _) rfl _ _ _ _) (by simp) _ _ _ _, fun o _ => free_box (by simp) _ _ _, by simp, ((Below.refl _ _).alloc (Nat.le_refl _) _).alloc (by simp) _⟩
  clear hn hm hml hs ht hl3 hp3
  go_enter Tryd.func28, Tryd.ntmps28
  go_wp2_with (first | (go_at_call 65; go_must (refine (HD.out _).mono ?_); rintro e w2 ⟨u, rfl, hn2, hb⟩; have HS2 := Lib.hid (HS.out.call hb); obtain ⟨A2, c2, rfl⟩ := hn2.slice; have HO3 := Lib.hid (below_at (Below.refl w2.heap.size w2) (.cells #[.bool nb, .slice A2 (limbs n).length c2, .int .i64 (-(s : Int))] 40)); have HS3 := Lib.hid (HS2.out.call HO3.out); have HW3 : Hid (St w (w2.alloc (.cells #[.bool nb, .slice A2 (limbs n).length c2, .int .i64 (-(s : Int))] 40)) [(w2.heap.size, 0, .bool nb), (w2.heap.size, 1, .slice A2 (limbs n).length c2), (w2.heap.size, 2, .int .i64 (-(s : Int)))] w2.heap.size 3) := Lib.hid ⟨Cells.box3 (Cells.nil _) rfl _ _ _ _, fun o _ => free_box rfl _ _ _, by simp, HS3.out.below⟩; obtain ⟨d03, d13, d23, a03, a13, a23, -⟩ := HS3.out.cells; have hne1 := Nat.ne_of_lt HS2.out.lt; have hne2 := Nat.ne_of_gt HS2.out.lt; clear hn2 hb) | (go_at_call 66; go_must (refine (HN.out _).mono ?_); rintro e w4 ⟨u4, v4, rfl, hu4, hv4, hb⟩; have HS4 := Lib.hid (HS3.out.call hb); have HW4 := Lib.hid (HW3.out.call hb); have HU4 := Lib.hid hu4.isNat; have HV4 := Lib.hid hv4.isNat; clear hu4 hv4 hb) | (go_at_call 26; go_must (refine (HR.out _ _ _ HU4.out HV4.out).mono ?_); rintro e w5 ⟨r, rfl, hn5, hb⟩; have HS5 := Lib.hid (HS4.out.call hb); have HW5 := Lib.hid (HW4.out.call hb); have HN5 := Lib.hid hn5; have HLE := Lib.hid HS2.out.below.size; have HL5 := Lib.hid hb.size; obtain ⟨A5, c5, rfl⟩ := hn5.slice; obtain ⟨d05, d15, d25, a05, a15, a25, -⟩ := HS5.out.cells; obtain ⟨b05, b15, b25, -⟩ := HW5.out.cells; have f0 := HW5.out.free 0 (by omega); have f1 := HW5.out.free 1 (by omega); have f2 := HW5.out.free 2 (by omega); have HZ5 := Lib.hid HW5.out.lt; have hz := HW5.out.lt; clear hn5 hb) | (go_at_call 24; go_must (refine (HSm.out _ _ _ (((HN5.out.set (p := ⟨w2.heap.size, 0, none⟩) HW4.out.lt _).set (p := ⟨w2.heap.size, 1, none⟩) HW4.out.lt _).set (p := ⟨w2.heap.size, 2, none⟩) HW4.out.lt _) (by simpa using HL5.out)).mono ?_); rintro e w6 ⟨rfl, hb⟩; have HB6 := Lib.hid (below_by (((HS5.out.below.setCell (p := ⟨w2.heap.size, 0, none⟩) HLE.out _).setCell (p := ⟨w2.heap.size, 1, none⟩) HLE.out _).setCell (p := ⟨w2.heap.size, 2, none⟩) HLE.out _) hb); clear hb))
  go_ret
  exact ⟨rfl, HB6.out⟩
set_option maxHeartbeats 4000000 in
set_option maxRecDepth 100000 in
theorem gvTo_round_nat (neg : Bool) (n s : Nat) (hn : n ≤ 9999999999999999999) (m t : Nat) (way : Int) (w : World) (hs : s ≤ 19) (ht : t < s) (hm : rq way (neg && decide (0 < n)) (n * 10 ^ t) (10 ^ s) = m) (hml : m ≤ 9999999999999999999) :
    Calls Tryd.prog 28 #[.agg #[.bool neg, .int .u64 n, .int .i64 s], .agg #[.bool (neg && decide (0 < n) && decide (0 < m)), .int .u64 m, .int .i64 t], .int .i64 0, .int .i64 (t : Int), .int .i64 way] w fun e w' => e = .returned (.bool true) ∧ Below w.heap.size w w' := by
  have hl3 := limbs_length 3 n (by omega)
  have hp3 := limbs_length 3 (10 ^ s) (Nat.lt_of_le_of_lt (Nat.pow_le_pow_right (by decide) hs) (by decide))
  have HD := Lib.hid (fun W => fixDec_any neg n s W (by omega) (by omega))
  have HN := Lib.hid (fun W => fixNum_any neg n s W (by omega) (by omega))
  have HR := Lib.hid (fun u v W h1 h2 => round_any (neg && decide (0 < n)) n (10 ^ s) t way u v W h1 h2 (Nat.pow_pos (by decide)) (by omega) (by omega) (by omega))
  have HSm := Lib.hid (fun u b0 W h1 h2 => fixSame_true (neg && decide (0 < n) && decide (0 < m)) m t b0 u W hml (by omega) (by simp) h1 h2)
  rw [fz_neg] at HD HN
  rw [hm] at HR
  rw [fz_neg, show (neg && decide (0 < n) && decide (0 < m) && decide (0 < m)) = (neg && decide (0 < n) && decide (0 < m)) by cases decide (0 < m) <;> simp] at HSm
  generalize (neg && decide (0 < n) && decide (0 < m)) = mb at *
  generalize (neg && decide (0 < n)) = nb at *
  have hk0 : ¬ ((t : Int) < 0) := by omega
  have hk1 : decide ((t : Int) < (s : Int)) = true := decide_eq_true (by omega)
  have hk2 : decide (t < s) = true := decide_eq_true ht
  have hkm : t ≤ 19 := by omega
  have HS : Hid (St w ((w.alloc (.cells #[.bool neg, .int .u64 n, .int .i64 s] 32)).alloc (.cells #[.bool mb, .int .u64 m, .int .i64 t] 32))
      [(w.heap.size + 1, 0, .bool mb), (w.heap.size + 1, 1, .int .u64 m), (w.heap.size + 1, 2, .int .i64 t), (w.heap.size, 0, .bool neg), (w.heap.size, 1, .int .u64 n), (w.heap.size, 2, .int .i64 s)] (w.heap.size + 1) 3) :=
    ⟨Cells.box3 (Cells.box3 (Cells.nil _) rfl _ _ _ _) (by simp) _ _ _ _, fun o _ => free_box (by simp) _ _ _, by simp, ((Below.refl _ _).alloc (Nat.le_refl _) _).alloc (by simp) _⟩
  clear hn hm hml hs ht hl3 hp3
  go_enter Tryd.func28, Tryd.ntmps28
  go_wp2_with (first | (go_at_call 65; go_must (refine (HD.out _).mono ?_); rintro e w2 ⟨u, rfl, hn2, hb⟩; have HS2 := Lib.hid (HS.out.call hb); obtain ⟨A2, c2, rfl⟩ := hn2.slice; have HO3 := Lib.hid (below_at (Below.refl w2.heap.size w2) (.cells #[.bool nb, .slice A2 (limbs n).length c2, .int .i64 (-(s : Int))] 40)); have HS3 := Lib.hid (HS2.out.call HO3.out); have HW3 : Hid (St w (w2.alloc (.cells #[.bool nb, .slice A2 (limbs n).length c2, .int .i64 (-(s : Int))] 40)) [(w2.heap.size, 0, .bool nb), (w2.heap.size, 1, .slice A2 (limbs n).length c2), (w2.heap.size, 2, .int .i64 (-(s : Int)))] w2.heap.size 3) := Lib.hid ⟨Cells.box3 (Cells.nil _) rfl _ _ _ _, fun o _ => free_box rfl _ _ _, by simp, HS3.out.below⟩; obtain ⟨d03, d13, d23, a03, a13, a23, -⟩ := HS3.out.cells; have hne1 := Nat.ne_of_lt HS2.out.lt; have hne2 := Nat.ne_of_gt HS2.out.lt; clear hn2 hb) | (go_at_call 66; go_must (refine (HN.out _).mono ?_); rintro e w4 ⟨u4, v4, rfl, hu4, hv4, hb⟩; have HS4 := Lib.hid (HS3.out.call hb); have HW4 := Lib.hid (HW3.out.call hb); have HU4 := Lib.hid hu4.isNat; have HV4 := Lib.hid hv4.isNat; clear hu4 hv4 hb) | (go_at_call 26; go_must (refine (HR.out _ _ _ HU4.out HV4.out).mono ?_); rintro e w5 ⟨r, rfl, hn5, hb⟩; have HS5 := Lib.hid (HS4.out.call hb); have HW5 := Lib.hid (HW4.out.call hb); have HN5 := Lib.hid hn5; have HLE := Lib.hid HS2.out.below.size; have HL5 := Lib.hid hb.size; obtain ⟨A5, c5, rfl⟩ := hn5.slice; obtain ⟨d05, d15, d25, a05, a15, a25, -⟩ := HS5.out.cells; obtain ⟨b05, b15, b25, -⟩ := HW5.out.cells; have f0 := HW5.out.free 0 (by omega); have f1 := HW5.out.free 1 (by omega); have f2 := HW5.out.free 2 (by omega); have HZ5 := Lib.hid HW5.out.lt; have hz := HW5.out.lt; clear hn5 hb) | (go_at_call 24; go_must (refine (HSm.out _ _ _ (((HN5.out.set (p := ⟨w2.heap.size, 0, none⟩) HW4.out.lt _).set (p := ⟨w2.heap.size, 1, none⟩) HW4.out.lt _).set (p := ⟨w2.heap.size, 2, none⟩) HW4.out.lt _) (by simpa using HL5.out)).mono ?_); rintro e w6 ⟨rfl, hb⟩; have HB6 := Lib.hid (below_by (((HS5.out.below.setCell (p := ⟨w2.heap.size, 0, none⟩) HLE.out _).setCell (p := ⟨w2.heap.size, 1, none⟩) HLE.out _).setCell (p := ⟨w2.heap.size, 2, none⟩) HLE.out _) hb); clear hb))
  go_ret
  exact ⟨rfl, HB6.out⟩
end Go.Proofs.YthkmgjkajllemaaDoor.Spec

/- Parts that make no decimal of govalues are told to be none. -/
namespace Go.Proofs.YthkmgjkajllemaaDoor.Spec
open Go.RowKit Go.Proofs.YthkmgjkajllemaaDoorW.PrintWords Go.Proofs.YthkmgjkajllemaaDoor.Make
set_option linter.unusedVariables false
set_option linter.unusedSimpArgs false

theorem newSafe_bad (neg : Bool) (n : Nat) (z : Int) (w : World) (h : 9999999999999999999 < n ∨ z < 0 ∨ 19 < z) (he : ErrAt w) :
    Calls Tryd.prog 80 #[.bool neg, .int .u64 n, .int .i64 z] w fun e w' => (∃ t v, e = .returned (.tuple #[.agg #[.bool false, .int .i8 0, .int .u64 0], .iface t v])) ∧ Below w.heap.size w w' := by
  by_cases hz : z < 0 ∨ 19 < z
  · exact newSafe_range neg n z w hz he
  · obtain ⟨s, rfl⟩ := Int.eq_ofNat_of_zero_le (show 0 ≤ z by omega)
    exact newSafe_over neg n s w (by omega) (by omega) he
theorem zzMake_bad (neg : Bool) (n : Nat) (z : Int) (w : World) (h : 9999999999999999999 < n ∨ z < 0 ∨ 19 < z) (he : ErrAt w) :
    Calls Tryd.prog 84 #[.bool neg, .int .u64 n, .int .i64 z] w fun e w' => (∃ t v, e = .returned (.tuple #[.agg #[.bool false, .int .i8 0, .int .u64 0], .iface t v])) ∧ Below w.heap.size w w' := by
  have HM := Lib.hid (fun W hW => newSafe_bad neg n z W h hW)
  have HE := Lib.hid (fun (W : World) (hb : Below w.heap.size w W) => he.below hb)
  have HS : Hid (St w (w.alloc (.cells #[.bool false, .int .i8 0, .int .u64 0] 74))
      [(w.heap.size, 0, .bool false), (w.heap.size, 1, .int .i8 0), (w.heap.size, 2, .int .u64 0)] w.heap.size 3) :=
    ⟨Cells.box3 (Cells.nil _) rfl _ _ _ _, fun o _ => free_box rfl _ _ _, by simp, (Below.refl _ _).alloc (Nat.le_refl _) _⟩
  clear h he
  go_enter Tryd.func84, Tryd.ntmps84
  go_wp2_with (first | (go_at_call 80; go_must (refine (HM.out _ (HE.out _ HS.out.below)).mono ?_); rintro e w2 ⟨⟨t, v, rfl⟩, hb⟩; have HS2 := Lib.hid (HS.out.call hb); obtain ⟨d0, d1, d2, -⟩ := HS2.out.cells; have f0 := HS2.out.free 0 (by omega); have f1 := HS2.out.free 1 (by omega); have f2 := HS2.out.free 2 (by omega); have hz := HS2.out.lt; clear hb))
  exact bodyPost_ret (v := .tuple #[.agg #[.bool false, .int .i8 0, .int .u64 0], .iface t v]) (by simp [results, Tryd.results84, go_sem, d0, d1, d2, f0, f1, f2, hz]) rfl ⟨⟨t, v, rfl⟩, ((HS2.out.below.setCell (p := ⟨w.heap.size, 0, none⟩) (Nat.le_refl _) _).setCell (p := ⟨w.heap.size, 1, none⟩) (Nat.le_refl _) _).setCell (p := ⟨w.heap.size, 2, none⟩) (Nat.le_refl _) _⟩

set_option maxHeartbeats 1000000 in
theorem fixed_bad (neg : Bool) (n : Nat) (z : Int) (w : World) (h : 9999999999999999999 < n ∨ z < 0 ∨ 19 < z) (he : ErrAt w) :
    Calls Tryd.prog 48 #[.agg #[.bool neg, .int .u64 n, .int .i64 z]] w fun e w' => e = .returned (.tuple #[.agg #[.bool false, .int .i8 0, .int .u64 0], .bool false]) ∧ Below w.heap.size w w' := by
  have HM := Lib.hid (fun W hW => zzMake_bad neg n z W h hW)
  have HE := Lib.hid (fun (W : World) (hb : Below w.heap.size w W) => he.below hb)
  have HS : Hid (St w ((w.alloc (.cells #[.bool neg, .int .u64 n, .int .i64 z] 32)).alloc (.cells #[.bool false, .int .i8 0, .int .u64 0] 74))
      [(w.heap.size + 1, 0, .bool false), (w.heap.size + 1, 1, .int .i8 0), (w.heap.size + 1, 2, .int .u64 0), (w.heap.size, 0, .bool neg), (w.heap.size, 1, .int .u64 n), (w.heap.size, 2, .int .i64 z)] (w.heap.size + 1) 3) :=
    ⟨Cells.box3 (Cells.box3 (Cells.nil _) rfl _ _ _ _) (by simp) _ _ _ _, fun o _ => free_box (by simp) _ _ _, by simp, ((Below.refl _ _).alloc (Nat.le_refl _) _).alloc (by simp) _⟩
  clear h he
  go_enter Tryd.func48, Tryd.ntmps48
  go_wp2_with (first | (go_at_call 84; go_must (refine (HM.out _ (HE.out _ HS.out.below)).mono ?_); rintro e w2 ⟨⟨t, v, rfl⟩, hb⟩; have HS2 := Lib.hid (HS.out.call hb); have HL := Lib.hid HS2.out.lt; clear hb))
  have hne : w.heap.size + 1 ≠ w2.heap.size := by have := HL.out; omega
  obtain ⟨W, hW⟩ : ∃ W, w2.alloc (.cells #[.bool false, .int .i8 0, .int .u64 0] 74) = W := ⟨_, rfl⟩
  have HS3 := Lib.hid (HS2.out.call ((Below.refl _ _).alloc (Nat.le_refl _) (.cells #[.bool false, .int .i8 0, .int .u64 0] 74)))
  have HC3 : Hid (Cells (w2.alloc (.cells #[.bool false, .int .i8 0, .int .u64 0] 74)) [(w2.heap.size, 0, .bool false), (w2.heap.size, 1, .int .i8 0), (w2.heap.size, 2, .int .u64 0)]) := Cells.box3 (Cells.nil _) rfl _ _ _ _
  rw [hW] at HS3 HC3 ⊢
  clear hW
  obtain ⟨d0, d1, d2, -⟩ := HS3.out.cells
  have f0 := HS3.out.free 0 (by omega)
  have f1 := HS3.out.free 1 (by omega)
  have f2 := HS3.out.free 2 (by omega)
  have hz := HS3.out.lt
  obtain ⟨k0, k1, k2, -⟩ := HC3.out
  go_region_held3 (fun W' => W'.cell? ⟨w2.heap.size, 0, none⟩ = some (.bool false) ∧ W'.cell? ⟨w2.heap.size, 1, none⟩ = some (.int .i8 0) ∧ W'.cell? ⟨w2.heap.size, 2, none⟩ = some (.int .u64 0)) (go_keep) (fail)
  all_goals (go_wp2; exact bodyPost_ret (v := .tuple #[.agg #[.bool false, .int .i8 0, .int .u64 0], .bool false]) (by simp [results, Tryd.results48, go_sem, d0, d1, d2, f0, f1, f2, hz]) rfl ⟨rfl, (((below_drew HS3.out.below).setCell (p := ⟨w.heap.size + 1, 0, none⟩) (Nat.le_succ _) _).setCell (p := ⟨w.heap.size + 1, 1, none⟩) (Nat.le_succ _) _).setCell (p := ⟨w.heap.size + 1, 2, none⟩) (Nat.le_succ _) _⟩)
end Go.Proofs.YthkmgjkajllemaaDoor.Spec
