/- Lemmas and contracts of functions for the theorem of YthkmgjkajllemaaDoorCiF. -/
import Derived.Test.YthkmgjkajllemaaDoorCiD

/- Whole numbers of 64 bits: the product and the shift to the left where there is room for them; quotient and remainder. -/
namespace Go.Proofs.YthkmgjkajllemaaDoor.Spec
open Go.RowKit Go.Proofs.YthkmgjkajllemaaDoorW.PrintWords Go.Proofs.YthkmgjkajllemaaDoor.Num Go.Proofs.YthkmgjkajllemaaDoor.Arith Go.Proofs.YthkmgjkajllemaaDoor.Make
set_option linter.unusedVariables false
set_option linter.unusedSimpArgs false

set_option maxHeartbeats 1000000 in
set_option maxRecDepth 100000 in
theorem mul_room (x y p : Nat) (w : World) (hx : x ≤ 9999999999999999999) (hy : 0 < y) (hy1 : y ≤ 10000000000000000000) (hp : x * y = p) (hpl : p ≤ 9999999999999999999) :
    Calls Tryd.prog 106 #[.int .u64 x, .int .u64 y] w fun e w' => e = .returned (.tuple #[.int .u64 p, .bool true]) ∧ Below w.heap.size w w' := by
  have hm : (x : Int) * (y : Int) = (p : Int) := by rw [← hp, Int.natCast_mul]
  have hq : (p : Int) / (y : Int) = (x : Int) := by rw [← hp, ← Int.natCast_ediv, Nat.mul_div_cancel _ hy]
  have hy0 : ((y : Int) == 0) = false := beq_eq_false_iff_ne.2 (by omega)
  have hy2 : 1 ≤ y := hy
  have hpg : decide ((9999999999999999999 : Int) < (p : Int)) = false := decide_eq_false (by omega)
  have hpg2 : decide ((9999999999999999999 : Nat) < p) = false := decide_eq_false (by omega)
  clear hp hy
  go_enter Tryd.func106, Tryd.ntmps106
  go_wp2
  go_ret2
  exact ⟨rfl, Below.refl _ _⟩
set_option maxHeartbeats 1000000 in
set_option maxRecDepth 100000 in
theorem lsh_room (x d p : Nat) (w : World) (h1 : 1 ≤ d) (h2 : d ≤ 19) (hp : x * 10 ^ d = p) (hpl : p ≤ 9999999999999999999) (hc : w.cell? ⟨0, d, none⟩ = some (.int .u64 ((10 ^ d : Nat) : Int))) :
    Calls Tryd.prog 93 #[.int .u64 x, .int .i64 d] w fun e w' => e = .returned (.tuple #[.int .u64 p, .bool true]) ∧ Below w.heap.size w w' := by
  have hten := (ten_le d h1).1
  have hx10 : x * 10 ≤ p := by rw [← hp]; exact Nat.mul_le_mul_left _ hten
  have hxl : x ≤ 999999999999999999 := by omega
  have hd2 : decide ((20 : Int) ≤ (d : Int)) = false := decide_eq_false (by omega)
  have hpw : 10 ^ d ≤ 10000000000000000000 := Nat.pow_le_pow_right (by decide) h2
  have HM := Lib.hid (fun W => mul_room x (10 ^ d) p W (by omega) (by omega) hpw hp hpl)
  by_cases hd : d = 1
  · subst hd
    by_cases hb : x < 999999999999999999
    · have hp10 : p = x * 10 := by omega
      subst hp10
      have HX := Lib.hid hb
      have hx17 : x ≤ 999999999999999999 := hxl
      have hbb : decide ((x : Int) < 999999999999999999) = true := decide_eq_true (by omega)
      clear HM hc hx10 hten hd2 hpw hp hxl hb
      rw [show ((1 : Nat) : Int) = 1 from rfl]
      go_enter Tryd.func93, Tryd.ntmps93
      go_wp2
      go_ret2
      exact ⟨rfl, Below.refl _ _⟩
    · have hb2 : decide ((x : Int) < 999999999999999999) = false := decide_eq_false (by omega)
      rw [show (10 ^ 1 : Nat) = 10 from rfl] at HM hc
      clear hx10 hten hd2 hpw hp hb hxl hpl
      rw [show ((1 : Nat) : Int) = 1 from rfl]
      rw [show ((10 : Nat) : Int) = 10 from rfl] at HM hc
      go_enter Tryd.func93, Tryd.ntmps93
      go_wp2_with (go_at_call 106; go_must (refine (HM.out _).mono ?_); rintro e w1 ⟨rfl, hb⟩; have HB := Lib.hid hb; clear hb)
      go_ret2
      exact ⟨rfl, HB.out⟩
  · have hd1 : decide (d = 1) = false := decide_eq_false hd
    have hd0 : decide (d = 0) = false := decide_eq_false (by omega)
    have hd3 : ((d : Int) == 1) = false := beq_eq_false_iff_ne.2 (by omega)
    generalize (10 ^ d : Nat) = c at *
    clear hx10 hten hpw hp hd
    go_enter Tryd.func93, Tryd.ntmps93
    go_wp2_with (go_at_call 106; go_must (refine (HM.out _).mono ?_); rintro e w1 ⟨rfl, hb⟩; have HB := Lib.hid hb; clear hb)
    go_ret2
    exact ⟨rfl, HB.out⟩
set_option maxHeartbeats 1000000 in
theorem quoRem_any (x y : Nat) (w : World) (hx : x ≤ 9999999999999999999) (hy : 0 < y) (hy1 : y ≤ 10000000000000000000) :
    Calls Tryd.prog 92 #[.int .u64 x, .int .u64 y] w fun e w' => e = .returned (.tuple #[.int .u64 ((x / y : Nat) : Int), .int .u64 ((x % y : Nat) : Int), .bool true]) ∧ Below w.heap.size w w' := by
  have hq : (x : Int) / (y : Int) = ((x / y : Nat) : Int) := by rw [Int.natCast_ediv]
  have hm : ((x / y : Nat) : Int) * (y : Int) = ((x / y * y : Nat) : Int) := by rw [Int.natCast_mul]
  have hdm := Nat.div_add_mod x y
  rw [Nat.mul_comm] at hdm
  have hql := Nat.div_le_self x y
  have hy0 : ((y : Int) == 0) = false := beq_eq_false_iff_ne.2 (by omega)
  have hy2 : 1 ≤ y := hy
  generalize x / y = q at *
  generalize x % y = r at *
  obtain ⟨p, hpp⟩ : ∃ p, q * y = p := ⟨_, rfl⟩
  rw [hpp] at hm hdm
  have hr : (x : Int) - (p : Int) = (r : Int) := by omega
  have hpx : p ≤ x := by omega
  clear hpp hdm hy
  go_enter Tryd.func92, Tryd.ntmps92
  go_wp2
  go_ret3
  exact ⟨rfl, Below.refl _ _⟩
end Go.Proofs.YthkmgjkajllemaaDoor.Spec

/- Decimal.Int64 of govalues: the whole part and the fraction. -/
namespace Go.Proofs.YthkmgjkajllemaaDoor.Spec
open Go.RowKit Go.Proofs.YthkmgjkajllemaaDoorW.PrintWords Go.Proofs.YthkmgjkajllemaaDoorW.PrintLast Go.Proofs.YthkmgjkajllemaaDoorW.PrintMore Go.Proofs.YthkmgjkajllemaaDoor.Num Go.Proofs.YthkmgjkajllemaaDoor.Arith Go.Proofs.YthkmgjkajllemaaDoor.Make Go.Proofs.YthkmgjkajllemaaDoor.Fint
set_option linter.unusedVariables false
set_option linter.unusedSimpArgs false

theorem wneg (q : Nat) (h : q ≤ 9223372036854775808) : wrap64 (-(wrap64 (q : Int))) = -(q : Int) := by
  by_cases h1 : q = 9223372036854775808
  · subst h1
    rw [show wrap64 ((9223372036854775808 : Nat) : Int) = -9223372036854775808 by unfold wrap64; decide]
    unfold wrap64
    decide
  · rw [w64' (q : Int) (by omega) (by omega), w64' (-(q : Int)) (by omega) (by omega)]
theorem ret3 {a a' b b' : Int} {t : Bool} (h : a = a') (h2 : b = b') : Ending.returned (.tuple #[.int .i64 a, .int .i64 b, .bool t]) = .returned (.tuple #[.int .i64 a', .int .i64 b', .bool t]) := by rw [h, h2]
theorem tab_at {w W : World} (hp : PowAt w) (i : Nat) (hi : i < 20) (hb : Below w.heap.size w W) : W.cell? ⟨0, i, none⟩ = some (.int .u64 ((10 ^ i : Nat) : Int)) := pw_cell_below hb (hp i hi)

set_option maxHeartbeats 4000000 in
set_option maxRecDepth 100000 in
theorem int64_lt_neg_over (n s t x q r : Nat) (w : World) (hs : s ≤ 19) (ht : t ≤ 18) (hn : n ≤ 9999999999999999999) (hp : PowAt w) (hts : t < s) (hx : rEven n (s - t) = x) (hxl : x ≤ 9999999999999999999) (hq : x / (10 ^ t) = q) (hr : x % (10 ^ t) = r) (hrl : r < 1000000000000000000) (hov : 9223372036854775808 < q) :
    Calls Tryd.prog 69 #[.agg #[.bool true, .int .i8 s, .int .u64 n], .int .i64 t] w fun e w' => e = .returned (.tuple #[.int .i64 0, .int .i64 0, .bool false]) ∧ Below w.heap.size w w' := by
  have HC := Lib.hid (fun W => scale_any true s n W hs)
  have HN := Lib.hid (fun W => isNeg_any true s n W)
  have HTab := Lib.hid (fun i hi (W : World) hb => tab_at (W := W) hp i hi hb)
  obtain ⟨d, hd⟩ : ∃ d, s - t = d := ⟨_, rfl⟩
  rw [hd] at hx
  have HR := Lib.hid (fun W h => rshEven_any n d W hn (by omega) (by omega) h)
  rw [hx] at HR
  have hsd : (s : Int) - (t : Int) = (d : Int) := by omega
  have hst2 : t ≤ s := by omega
  have HD := Lib.hid (show d < 20 by omega)
  have ht1 : decide ((t : Int) < (s : Int)) = true := decide_eq_true (by omega)
  have ht2 : decide (t < s) = true := decide_eq_true hts
  have ht3 : decide ((s : Int) < (t : Int)) = false := decide_eq_false (by omega)
  have ht4 : decide (s < t) = false := decide_eq_false (by omega)
  have HTT := Lib.hid (show t < 20 by omega)
  have HQR := Lib.hid (fun W => quoRem_any x (10 ^ t) W hxl (Nat.pow_pos (by decide)) (Nat.pow_le_pow_right (by decide) (show t ≤ 19 by omega)))
  rw [hq, hr] at HQR
  have HSS := Lib.hid (show s < 20 by omega)
  have hov1 : decide ((9223372036854775808 : Int) < (q : Int)) = true := decide_eq_true (by omega)
  have hov2 : decide ((9223372036854775808 : Nat) < q) = true := decide_eq_true (by omega)
  have hrr1 : decide ((9223372036854775808 : Int) < (r : Int)) = false := decide_eq_false (by omega)
  have hrr2 : decide ((9223372036854775808 : Nat) < r) = false := decide_eq_false (by omega)
  have HS : Hid (St w (w.alloc (.cells #[.bool true, .int .i8 s, .int .u64 n] 74)) [(w.heap.size, 0, .bool true), (w.heap.size, 1, .int .i8 s), (w.heap.size, 2, .int .u64 n)] w.heap.size 0) :=
    ⟨Cells.box3 (Cells.nil _) rfl _ _ _ _, fun o ho => absurd ho (by omega), by simp, (Below.refl _ _).alloc (Nat.le_refl _) _⟩
  have htm : t ≤ 19 := by omega
  have hsm : s ≤ 19 := hs
  clear hs hn hp hxl hq hr hov ht hx hts hd
  go_enter Tryd.func69, Tryd.ntmps69
  go_wp2_with (first | (go_at_call 83; go_must (refine (HC.out _).mono ?_); rintro e w2 ⟨rfl, hb⟩; first | (have HS7 := Lib.hid (HS6.out.call hb); obtain ⟨a07, a17, a27, -⟩ := HS7.out.cells; have tab7 := HTab.out s HSS.out _ HS7.out.below; clear hb) | (have HS4 := Lib.hid (HS3.out.call hb); obtain ⟨a04, a14, a24, -⟩ := HS4.out.cells; have tab4 := HTab.out s HSS.out _ HS4.out.below; clear hb) | (have HS3 := Lib.hid (HS2.out.call hb); obtain ⟨a03, a13, a23, -⟩ := HS3.out.cells; have tab3 := HTab.out s HSS.out _ HS3.out.below; clear hb) | (have HS2 := Lib.hid (HS.out.call hb); obtain ⟨a02, a12, a22, -⟩ := HS2.out.cells; have tab2 := HTab.out s HSS.out _ HS2.out.below; clear hb)) | (go_at_call 91; go_must (refine (HR.out _ (HTab.out d HD.out _ HS4.out.below)).mono ?_); rintro e w5 ⟨rfl, hb⟩; have HS5 := Lib.hid (HS4.out.call hb); obtain ⟨a05, a15, a25, -⟩ := HS5.out.cells; have tab5 := HTab.out s HSS.out _ HS5.out.below; have tabt := HTab.out t HTT.out _ HS5.out.below; clear hb) | (go_at_call 92; go_must (refine (HQR.out _).mono ?_); rintro e w6 ⟨rfl, hb⟩; have HS6 := Lib.hid (HS5.out.call hb); obtain ⟨a06, a16, a26, -⟩ := HS6.out.cells; have tab6 := HTab.out s HSS.out _ HS6.out.below; clear hb) | (go_at_call 81; go_must (refine (HN.out _).mono ?_); rintro e w10 ⟨rfl, hb⟩; have HSZ := Lib.hid (HS7.out.call hb); clear hb))
  go_ret3
  exact ⟨rfl, HSZ.out.below⟩
set_option maxHeartbeats 4000000 in
set_option maxRecDepth 100000 in
theorem int64_lt_neg_in (n s t x q r : Nat) (w : World) (hs : s ≤ 19) (ht : t ≤ 18) (hn : n ≤ 9999999999999999999) (hp : PowAt w) (hts : t < s) (hx : rEven n (s - t) = x) (hxl : x ≤ 9999999999999999999) (hq : x / (10 ^ t) = q) (hr : x % (10 ^ t) = r) (hrl : r < 1000000000000000000) (hov : q ≤ 9223372036854775808) :
    Calls Tryd.prog 69 #[.agg #[.bool true, .int .i8 s, .int .u64 n], .int .i64 t] w fun e w' => e = .returned (.tuple #[.int .i64 (-(q : Int)), .int .i64 (-(r : Int)), .bool true]) ∧ Below w.heap.size w w' := by
  have HC := Lib.hid (fun W => scale_any true s n W hs)
  have HN := Lib.hid (fun W => isNeg_any true s n W)
  have HTab := Lib.hid (fun i hi (W : World) hb => tab_at (W := W) hp i hi hb)
  obtain ⟨d, hd⟩ : ∃ d, s - t = d := ⟨_, rfl⟩
  rw [hd] at hx
  have HR := Lib.hid (fun W h => rshEven_any n d W hn (by omega) (by omega) h)
  rw [hx] at HR
  have hsd : (s : Int) - (t : Int) = (d : Int) := by omega
  have hst2 : t ≤ s := by omega
  have HD := Lib.hid (show d < 20 by omega)
  have ht1 : decide ((t : Int) < (s : Int)) = true := decide_eq_true (by omega)
  have ht2 : decide (t < s) = true := decide_eq_true hts
  have ht3 : decide ((s : Int) < (t : Int)) = false := decide_eq_false (by omega)
  have ht4 : decide (s < t) = false := decide_eq_false (by omega)
  have HTT := Lib.hid (show t < 20 by omega)
  have HQR := Lib.hid (fun W => quoRem_any x (10 ^ t) W hxl (Nat.pow_pos (by decide)) (Nat.pow_le_pow_right (by decide) (show t ≤ 19 by omega)))
  rw [hq, hr] at HQR
  have HSS := Lib.hid (show s < 20 by omega)
  have hov1 : decide ((9223372036854775808 : Int) < (q : Int)) = false := decide_eq_false (by omega)
  have hov2 : decide ((9223372036854775808 : Nat) < q) = false := decide_eq_false (by omega)
  have hrr1 : decide ((9223372036854775808 : Int) < (r : Int)) = false := decide_eq_false (by omega)
  have hrr2 : decide ((9223372036854775808 : Nat) < r) = false := decide_eq_false (by omega)
  have HQV := Lib.hid hov
  have HS : Hid (St w (w.alloc (.cells #[.bool true, .int .i8 s, .int .u64 n] 74)) [(w.heap.size, 0, .bool true), (w.heap.size, 1, .int .i8 s), (w.heap.size, 2, .int .u64 n)] w.heap.size 0) :=
    ⟨Cells.box3 (Cells.nil _) rfl _ _ _ _, fun o ho => absurd ho (by omega), by simp, (Below.refl _ _).alloc (Nat.le_refl _) _⟩
  have htm : t ≤ 19 := by omega
  have hsm : s ≤ 19 := hs
  clear hs hn hp hxl hq hr hov ht hx hts hd
  go_enter Tryd.func69, Tryd.ntmps69
  go_wp2_with (first | (go_at_call 83; go_must (refine (HC.out _).mono ?_); rintro e w2 ⟨rfl, hb⟩; first | (have HS7 := Lib.hid (HS6.out.call hb); obtain ⟨a07, a17, a27, -⟩ := HS7.out.cells; have tab7 := HTab.out s HSS.out _ HS7.out.below; clear hb) | (have HS4 := Lib.hid (HS3.out.call hb); obtain ⟨a04, a14, a24, -⟩ := HS4.out.cells; have tab4 := HTab.out s HSS.out _ HS4.out.below; clear hb) | (have HS3 := Lib.hid (HS2.out.call hb); obtain ⟨a03, a13, a23, -⟩ := HS3.out.cells; have tab3 := HTab.out s HSS.out _ HS3.out.below; clear hb) | (have HS2 := Lib.hid (HS.out.call hb); obtain ⟨a02, a12, a22, -⟩ := HS2.out.cells; have tab2 := HTab.out s HSS.out _ HS2.out.below; clear hb)) | (go_at_call 91; go_must (refine (HR.out _ (HTab.out d HD.out _ HS4.out.below)).mono ?_); rintro e w5 ⟨rfl, hb⟩; have HS5 := Lib.hid (HS4.out.call hb); obtain ⟨a05, a15, a25, -⟩ := HS5.out.cells; have tab5 := HTab.out s HSS.out _ HS5.out.below; have tabt := HTab.out t HTT.out _ HS5.out.below; clear hb) | (go_at_call 92; go_must (refine (HQR.out _).mono ?_); rintro e w6 ⟨rfl, hb⟩; have HS6 := Lib.hid (HS5.out.call hb); obtain ⟨a06, a16, a26, -⟩ := HS6.out.cells; have tab6 := HTab.out s HSS.out _ HS6.out.below; clear hb) | (go_at_call 81; go_must (refine (HN.out _).mono ?_); rintro e w10 ⟨rfl, hb⟩; have HSZ := Lib.hid (HS7.out.call hb); clear hb))
  go_ret3
  exact ⟨ret3 (wneg q HQV.out) rfl, HSZ.out.below⟩
set_option maxHeartbeats 4000000 in
set_option maxRecDepth 100000 in
theorem int64_lt_nat_over (n s t x q r : Nat) (w : World) (hs : s ≤ 19) (ht : t ≤ 18) (hn : n ≤ 9999999999999999999) (hp : PowAt w) (hts : t < s) (hx : rEven n (s - t) = x) (hxl : x ≤ 9999999999999999999) (hq : x / (10 ^ t) = q) (hr : x % (10 ^ t) = r) (hrl : r < 1000000000000000000) (hov : 9223372036854775807 < q) :
    Calls Tryd.prog 69 #[.agg #[.bool false, .int .i8 s, .int .u64 n], .int .i64 t] w fun e w' => e = .returned (.tuple #[.int .i64 0, .int .i64 0, .bool false]) ∧ Below w.heap.size w w' := by
  have HC := Lib.hid (fun W => scale_any false s n W hs)
  have HN := Lib.hid (fun W => isNeg_any false s n W)
  have HTab := Lib.hid (fun i hi (W : World) hb => tab_at (W := W) hp i hi hb)
  obtain ⟨d, hd⟩ : ∃ d, s - t = d := ⟨_, rfl⟩
  rw [hd] at hx
  have HR := Lib.hid (fun W h => rshEven_any n d W hn (by omega) (by omega) h)
  rw [hx] at HR
  have hsd : (s : Int) - (t : Int) = (d : Int) := by omega
  have hst2 : t ≤ s := by omega
  have HD := Lib.hid (show d < 20 by omega)
  have ht1 : decide ((t : Int) < (s : Int)) = true := decide_eq_true (by omega)
  have ht2 : decide (t < s) = true := decide_eq_true hts
  have ht3 : decide ((s : Int) < (t : Int)) = false := decide_eq_false (by omega)
  have ht4 : decide (s < t) = false := decide_eq_false (by omega)
  have HTT := Lib.hid (show t < 20 by omega)
  have HQR := Lib.hid (fun W => quoRem_any x (10 ^ t) W hxl (Nat.pow_pos (by decide)) (Nat.pow_le_pow_right (by decide) (show t ≤ 19 by omega)))
  rw [hq, hr] at HQR
  have HSS := Lib.hid (show s < 20 by omega)
  have hov1 : decide ((9223372036854775807 : Int) < (q : Int)) = true := decide_eq_true (by omega)
  have hov2 : decide ((9223372036854775807 : Nat) < q) = true := decide_eq_true (by omega)
  have hrr1 : decide ((9223372036854775807 : Int) < (r : Int)) = false := decide_eq_false (by omega)
  have hrr2 : decide ((9223372036854775807 : Nat) < r) = false := decide_eq_false (by omega)
  have HS : Hid (St w (w.alloc (.cells #[.bool false, .int .i8 s, .int .u64 n] 74)) [(w.heap.size, 0, .bool false), (w.heap.size, 1, .int .i8 s), (w.heap.size, 2, .int .u64 n)] w.heap.size 0) :=
    ⟨Cells.box3 (Cells.nil _) rfl _ _ _ _, fun o ho => absurd ho (by omega), by simp, (Below.refl _ _).alloc (Nat.le_refl _) _⟩
  have htm : t ≤ 19 := by omega
  have hsm : s ≤ 19 := hs
  clear hs hn hp hxl hq hr hov ht hx hts hd
  go_enter Tryd.func69, Tryd.ntmps69
  go_wp2_with (first | (go_at_call 83; go_must (refine (HC.out _).mono ?_); rintro e w2 ⟨rfl, hb⟩; first | (have HS7 := Lib.hid (HS6.out.call hb); obtain ⟨a07, a17, a27, -⟩ := HS7.out.cells; have tab7 := HTab.out s HSS.out _ HS7.out.below; clear hb) | (have HS4 := Lib.hid (HS3.out.call hb); obtain ⟨a04, a14, a24, -⟩ := HS4.out.cells; have tab4 := HTab.out s HSS.out _ HS4.out.below; clear hb) | (have HS3 := Lib.hid (HS2.out.call hb); obtain ⟨a03, a13, a23, -⟩ := HS3.out.cells; have tab3 := HTab.out s HSS.out _ HS3.out.below; clear hb) | (have HS2 := Lib.hid (HS.out.call hb); obtain ⟨a02, a12, a22, -⟩ := HS2.out.cells; have tab2 := HTab.out s HSS.out _ HS2.out.below; clear hb)) | (go_at_call 91; go_must (refine (HR.out _ (HTab.out d HD.out _ HS4.out.below)).mono ?_); rintro e w5 ⟨rfl, hb⟩; have HS5 := Lib.hid (HS4.out.call hb); obtain ⟨a05, a15, a25, -⟩ := HS5.out.cells; have tab5 := HTab.out s HSS.out _ HS5.out.below; have tabt := HTab.out t HTT.out _ HS5.out.below; clear hb) | (go_at_call 92; go_must (refine (HQR.out _).mono ?_); rintro e w6 ⟨rfl, hb⟩; have HS6 := Lib.hid (HS5.out.call hb); obtain ⟨a06, a16, a26, -⟩ := HS6.out.cells; have tab6 := HTab.out s HSS.out _ HS6.out.below; clear hb) | (go_at_call 81; go_must (refine (HN.out _).mono ?_); rintro e w10 ⟨rfl, hb⟩; have HSZ := Lib.hid (HS7.out.call hb); clear hb))
  go_ret3
  exact ⟨rfl, HSZ.out.below⟩
set_option maxHeartbeats 4000000 in
set_option maxRecDepth 100000 in
theorem int64_lt_nat_in (n s t x q r : Nat) (w : World) (hs : s ≤ 19) (ht : t ≤ 18) (hn : n ≤ 9999999999999999999) (hp : PowAt w) (hts : t < s) (hx : rEven n (s - t) = x) (hxl : x ≤ 9999999999999999999) (hq : x / (10 ^ t) = q) (hr : x % (10 ^ t) = r) (hrl : r < 1000000000000000000) (hov : q ≤ 9223372036854775807) :
    Calls Tryd.prog 69 #[.agg #[.bool false, .int .i8 s, .int .u64 n], .int .i64 t] w fun e w' => e = .returned (.tuple #[.int .i64 q, .int .i64 r, .bool true]) ∧ Below w.heap.size w w' := by
  have HC := Lib.hid (fun W => scale_any false s n W hs)
  have HN := Lib.hid (fun W => isNeg_any false s n W)
  have HTab := Lib.hid (fun i hi (W : World) hb => tab_at (W := W) hp i hi hb)
  obtain ⟨d, hd⟩ : ∃ d, s - t = d := ⟨_, rfl⟩
  rw [hd] at hx
  have HR := Lib.hid (fun W h => rshEven_any n d W hn (by omega) (by omega) h)
  rw [hx] at HR
  have hsd : (s : Int) - (t : Int) = (d : Int) := by omega
  have hst2 : t ≤ s := by omega
  have HD := Lib.hid (show d < 20 by omega)
  have ht1 : decide ((t : Int) < (s : Int)) = true := decide_eq_true (by omega)
  have ht2 : decide (t < s) = true := decide_eq_true hts
  have ht3 : decide ((s : Int) < (t : Int)) = false := decide_eq_false (by omega)
  have ht4 : decide (s < t) = false := decide_eq_false (by omega)
  have HTT := Lib.hid (show t < 20 by omega)
  have HQR := Lib.hid (fun W => quoRem_any x (10 ^ t) W hxl (Nat.pow_pos (by decide)) (Nat.pow_le_pow_right (by decide) (show t ≤ 19 by omega)))
  rw [hq, hr] at HQR
  have HSS := Lib.hid (show s < 20 by omega)
  have hov1 : decide ((9223372036854775807 : Int) < (q : Int)) = false := decide_eq_false (by omega)
  have hov2 : decide ((9223372036854775807 : Nat) < q) = false := decide_eq_false (by omega)
  have hrr1 : decide ((9223372036854775807 : Int) < (r : Int)) = false := decide_eq_false (by omega)
  have hrr2 : decide ((9223372036854775807 : Nat) < r) = false := decide_eq_false (by omega)
  have HQI : Hid (wrap64 (q : Int) = (q : Int)) := Lib.hid (w64' _ (by omega) (by omega))
  have HS : Hid (St w (w.alloc (.cells #[.bool false, .int .i8 s, .int .u64 n] 74)) [(w.heap.size, 0, .bool false), (w.heap.size, 1, .int .i8 s), (w.heap.size, 2, .int .u64 n)] w.heap.size 0) :=
    ⟨Cells.box3 (Cells.nil _) rfl _ _ _ _, fun o ho => absurd ho (by omega), by simp, (Below.refl _ _).alloc (Nat.le_refl _) _⟩
  have htm : t ≤ 19 := by omega
  have hsm : s ≤ 19 := hs
  clear hs hn hp hxl hq hr hov ht hx hts hd
  go_enter Tryd.func69, Tryd.ntmps69
  go_wp2_with (first | (go_at_call 83; go_must (refine (HC.out _).mono ?_); rintro e w2 ⟨rfl, hb⟩; first | (have HS7 := Lib.hid (HS6.out.call hb); obtain ⟨a07, a17, a27, -⟩ := HS7.out.cells; have tab7 := HTab.out s HSS.out _ HS7.out.below; clear hb) | (have HS4 := Lib.hid (HS3.out.call hb); obtain ⟨a04, a14, a24, -⟩ := HS4.out.cells; have tab4 := HTab.out s HSS.out _ HS4.out.below; clear hb) | (have HS3 := Lib.hid (HS2.out.call hb); obtain ⟨a03, a13, a23, -⟩ := HS3.out.cells; have tab3 := HTab.out s HSS.out _ HS3.out.below; clear hb) | (have HS2 := Lib.hid (HS.out.call hb); obtain ⟨a02, a12, a22, -⟩ := HS2.out.cells; have tab2 := HTab.out s HSS.out _ HS2.out.below; clear hb)) | (go_at_call 91; go_must (refine (HR.out _ (HTab.out d HD.out _ HS4.out.below)).mono ?_); rintro e w5 ⟨rfl, hb⟩; have HS5 := Lib.hid (HS4.out.call hb); obtain ⟨a05, a15, a25, -⟩ := HS5.out.cells; have tab5 := HTab.out s HSS.out _ HS5.out.below; have tabt := HTab.out t HTT.out _ HS5.out.below; clear hb) | (go_at_call 92; go_must (refine (HQR.out _).mono ?_); rintro e w6 ⟨rfl, hb⟩; have HS6 := Lib.hid (HS5.out.call hb); obtain ⟨a06, a16, a26, -⟩ := HS6.out.cells; have tab6 := HTab.out s HSS.out _ HS6.out.below; clear hb) | (go_at_call 81; go_must (refine (HN.out _).mono ?_); rintro e w10 ⟨rfl, hb⟩; have HSZ := Lib.hid (HS7.out.call hb); clear hb))
  go_ret3
  exact ⟨ret3 HQI.out rfl, HSZ.out.below⟩
set_option maxHeartbeats 4000000 in
set_option maxRecDepth 100000 in
theorem int64_eq_neg_over (n s t x q r : Nat) (w : World) (hs : s ≤ 19) (ht : t ≤ 18) (hn : n ≤ 9999999999999999999) (hp : PowAt w) (hts : t = s) (hx : n = x) (hxl : x ≤ 9999999999999999999) (hq : x / (10 ^ s) = q) (hr : x % (10 ^ s) = r) (hrl : r < 1000000000000000000) (hov : 9223372036854775808 < q) :
    Calls Tryd.prog 69 #[.agg #[.bool true, .int .i8 s, .int .u64 n], .int .i64 t] w fun e w' => e = .returned (.tuple #[.int .i64 0, .int .i64 0, .bool false]) ∧ Below w.heap.size w w' := by
  have HC := Lib.hid (fun W => scale_any true s n W hs)
  have HN := Lib.hid (fun W => isNeg_any true s n W)
  have HTab := Lib.hid (fun i hi (W : World) hb => tab_at (W := W) hp i hi hb)
  subst hts
  subst hx
  have HQR := Lib.hid (fun W => quoRem_any n (10 ^ t) W hxl (Nat.pow_pos (by decide)) (Nat.pow_le_pow_right (by decide) (show t ≤ 19 by omega)))
  rw [hq, hr] at HQR
  have HSS := Lib.hid (show t < 20 by omega)
  have hov1 : decide ((9223372036854775808 : Int) < (q : Int)) = true := decide_eq_true (by omega)
  have hov2 : decide ((9223372036854775808 : Nat) < q) = true := decide_eq_true (by omega)
  have hrr1 : decide ((9223372036854775808 : Int) < (r : Int)) = false := decide_eq_false (by omega)
  have hrr2 : decide ((9223372036854775808 : Nat) < r) = false := decide_eq_false (by omega)
  have HS : Hid (St w (w.alloc (.cells #[.bool true, .int .i8 t, .int .u64 n] 74)) [(w.heap.size, 0, .bool true), (w.heap.size, 1, .int .i8 t), (w.heap.size, 2, .int .u64 n)] w.heap.size 0) :=
    ⟨Cells.box3 (Cells.nil _) rfl _ _ _ _, fun o ho => absurd ho (by omega), by simp, (Below.refl _ _).alloc (Nat.le_refl _) _⟩
  have htm : t ≤ 19 := by omega
  clear hs hn hp hxl hq hr hov ht
  go_enter Tryd.func69, Tryd.ntmps69
  go_wp2_with (first | (go_at_call 83; go_must (refine (HC.out _).mono ?_); rintro e w2 ⟨rfl, hb⟩; first | (have HS7 := Lib.hid (HS6.out.call hb); obtain ⟨a07, a17, a27, -⟩ := HS7.out.cells; have tab7 := HTab.out t HSS.out _ HS7.out.below; clear hb) | (have HS3 := Lib.hid (HS2.out.call hb); obtain ⟨a03, a13, a23, -⟩ := HS3.out.cells; have tab3 := HTab.out t HSS.out _ HS3.out.below; clear hb) | (have HS2 := Lib.hid (HS.out.call hb); obtain ⟨a02, a12, a22, -⟩ := HS2.out.cells; have tab2 := HTab.out t HSS.out _ HS2.out.below; clear hb)) | (go_at_call 92; go_must (refine (HQR.out _).mono ?_); rintro e w6 ⟨rfl, hb⟩; have HS6 := Lib.hid (HS3.out.call hb); obtain ⟨a06, a16, a26, -⟩ := HS6.out.cells; have tab6 := HTab.out t HSS.out _ HS6.out.below; clear hb) | (go_at_call 81; go_must (refine (HN.out _).mono ?_); rintro e w10 ⟨rfl, hb⟩; have HSZ := Lib.hid (HS7.out.call hb); clear hb))
  go_ret3
  exact ⟨rfl, HSZ.out.below⟩
set_option maxHeartbeats 4000000 in
set_option maxRecDepth 100000 in
theorem int64_eq_neg_in (n s t x q r : Nat) (w : World) (hs : s ≤ 19) (ht : t ≤ 18) (hn : n ≤ 9999999999999999999) (hp : PowAt w) (hts : t = s) (hx : n = x) (hxl : x ≤ 9999999999999999999) (hq : x / (10 ^ s) = q) (hr : x % (10 ^ s) = r) (hrl : r < 1000000000000000000) (hov : q ≤ 9223372036854775808) :
    Calls Tryd.prog 69 #[.agg #[.bool true, .int .i8 s, .int .u64 n], .int .i64 t] w fun e w' => e = .returned (.tuple #[.int .i64 (-(q : Int)), .int .i64 (-(r : Int)), .bool true]) ∧ Below w.heap.size w w' := by
  have HC := Lib.hid (fun W => scale_any true s n W hs)
  have HN := Lib.hid (fun W => isNeg_any true s n W)
  have HTab := Lib.hid (fun i hi (W : World) hb => tab_at (W := W) hp i hi hb)
  subst hts
  subst hx
  have HQR := Lib.hid (fun W => quoRem_any n (10 ^ t) W hxl (Nat.pow_pos (by decide)) (Nat.pow_le_pow_right (by decide) (show t ≤ 19 by omega)))
  rw [hq, hr] at HQR
  have HSS := Lib.hid (show t < 20 by omega)
  have hov1 : decide ((9223372036854775808 : Int) < (q : Int)) = false := decide_eq_false (by omega)
  have hov2 : decide ((9223372036854775808 : Nat) < q) = false := decide_eq_false (by omega)
  have hrr1 : decide ((9223372036854775808 : Int) < (r : Int)) = false := decide_eq_false (by omega)
  have hrr2 : decide ((9223372036854775808 : Nat) < r) = false := decide_eq_false (by omega)
  have HQV := Lib.hid hov
  have HS : Hid (St w (w.alloc (.cells #[.bool true, .int .i8 t, .int .u64 n] 74)) [(w.heap.size, 0, .bool true), (w.heap.size, 1, .int .i8 t), (w.heap.size, 2, .int .u64 n)] w.heap.size 0) :=
    ⟨Cells.box3 (Cells.nil _) rfl _ _ _ _, fun o ho => absurd ho (by omega), by simp, (Below.refl _ _).alloc (Nat.le_refl _) _⟩
  have htm : t ≤ 19 := by omega
  clear hs hn hp hxl hq hr hov ht
  go_enter Tryd.func69, Tryd.ntmps69
  go_wp2_with (first | (go_at_call 83; go_must (refine (HC.out _).mono ?_); rintro e w2 ⟨rfl, hb⟩; first | (have HS7 := Lib.hid (HS6.out.call hb); obtain ⟨a07, a17, a27, -⟩ := HS7.out.cells; have tab7 := HTab.out t HSS.out _ HS7.out.below; clear hb) | (have HS3 := Lib.hid (HS2.out.call hb); obtain ⟨a03, a13, a23, -⟩ := HS3.out.cells; have tab3 := HTab.out t HSS.out _ HS3.out.below; clear hb) | (have HS2 := Lib.hid (HS.out.call hb); obtain ⟨a02, a12, a22, -⟩ := HS2.out.cells; have tab2 := HTab.out t HSS.out _ HS2.out.below; clear hb)) | (go_at_call 92; go_must (refine (HQR.out _).mono ?_); rintro e w6 ⟨rfl, hb⟩; have HS6 := Lib.hid (HS3.out.call hb); obtain ⟨a06, a16, a26, -⟩ := HS6.out.cells; have tab6 := HTab.out t HSS.out _ HS6.out.below; clear hb) | (go_at_call 81; go_must (refine (HN.out _).mono ?_); rintro e w10 ⟨rfl, hb⟩; have HSZ := Lib.hid (HS7.out.call hb); clear hb))
  go_ret3
  exact ⟨ret3 (wneg q HQV.out) rfl, HSZ.out.below⟩
set_option maxHeartbeats 4000000 in
set_option maxRecDepth 100000 in
theorem int64_eq_nat_over (n s t x q r : Nat) (w : World) (hs : s ≤ 19) (ht : t ≤ 18) (hn : n ≤ 9999999999999999999) (hp : PowAt w) (hts : t = s) (hx : n = x) (hxl : x ≤ 9999999999999999999) (hq : x / (10 ^ s) = q) (hr : x % (10 ^ s) = r) (hrl : r < 1000000000000000000) (hov : 9223372036854775807 < q) :
    Calls Tryd.prog 69 #[.agg #[.bool false, .int .i8 s, .int .u64 n], .int .i64 t] w fun e w' => e = .returned (.tuple #[.int .i64 0, .int .i64 0, .bool false]) ∧ Below w.heap.size w w' := by
  have HC := Lib.hid (fun W => scale_any false s n W hs)
  have HN := Lib.hid (fun W => isNeg_any false s n W)
  have HTab := Lib.hid (fun i hi (W : World) hb => tab_at (W := W) hp i hi hb)
  subst hts
  subst hx
  have HQR := Lib.hid (fun W => quoRem_any n (10 ^ t) W hxl (Nat.pow_pos (by decide)) (Nat.pow_le_pow_right (by decide) (show t ≤ 19 by omega)))
  rw [hq, hr] at HQR
  have HSS := Lib.hid (show t < 20 by omega)
  have hov1 : decide ((9223372036854775807 : Int) < (q : Int)) = true := decide_eq_true (by omega)
  have hov2 : decide ((9223372036854775807 : Nat) < q) = true := decide_eq_true (by omega)
  have hrr1 : decide ((9223372036854775807 : Int) < (r : Int)) = false := decide_eq_false (by omega)
  have hrr2 : decide ((9223372036854775807 : Nat) < r) = false := decide_eq_false (by omega)
  have HS : Hid (St w (w.alloc (.cells #[.bool false, .int .i8 t, .int .u64 n] 74)) [(w.heap.size, 0, .bool false), (w.heap.size, 1, .int .i8 t), (w.heap.size, 2, .int .u64 n)] w.heap.size 0) :=
    ⟨Cells.box3 (Cells.nil _) rfl _ _ _ _, fun o ho => absurd ho (by omega), by simp, (Below.refl _ _).alloc (Nat.le_refl _) _⟩
  have htm : t ≤ 19 := by omega
  clear hs hn hp hxl hq hr hov ht
  go_enter Tryd.func69, Tryd.ntmps69
  go_wp2_with (first | (go_at_call 83; go_must (refine (HC.out _).mono ?_); rintro e w2 ⟨rfl, hb⟩; first | (have HS7 := Lib.hid (HS6.out.call hb); obtain ⟨a07, a17, a27, -⟩ := HS7.out.cells; have tab7 := HTab.out t HSS.out _ HS7.out.below; clear hb) | (have HS3 := Lib.hid (HS2.out.call hb); obtain ⟨a03, a13, a23, -⟩ := HS3.out.cells; have tab3 := HTab.out t HSS.out _ HS3.out.below; clear hb) | (have HS2 := Lib.hid (HS.out.call hb); obtain ⟨a02, a12, a22, -⟩ := HS2.out.cells; have tab2 := HTab.out t HSS.out _ HS2.out.below; clear hb)) | (go_at_call 92; go_must (refine (HQR.out _).mono ?_); rintro e w6 ⟨rfl, hb⟩; have HS6 := Lib.hid (HS3.out.call hb); obtain ⟨a06, a16, a26, -⟩ := HS6.out.cells; have tab6 := HTab.out t HSS.out _ HS6.out.below; clear hb) | (go_at_call 81; go_must (refine (HN.out _).mono ?_); rintro e w10 ⟨rfl, hb⟩; have HSZ := Lib.hid (HS7.out.call hb); clear hb))
  go_ret3
  exact ⟨rfl, HSZ.out.below⟩
set_option maxHeartbeats 4000000 in
set_option maxRecDepth 100000 in
theorem int64_eq_nat_in (n s t x q r : Nat) (w : World) (hs : s ≤ 19) (ht : t ≤ 18) (hn : n ≤ 9999999999999999999) (hp : PowAt w) (hts : t = s) (hx : n = x) (hxl : x ≤ 9999999999999999999) (hq : x / (10 ^ s) = q) (hr : x % (10 ^ s) = r) (hrl : r < 1000000000000000000) (hov : q ≤ 9223372036854775807) :
    Calls Tryd.prog 69 #[.agg #[.bool false, .int .i8 s, .int .u64 n], .int .i64 t] w fun e w' => e = .returned (.tuple #[.int .i64 q, .int .i64 r, .bool true]) ∧ Below w.heap.size w w' := by
  have HC := Lib.hid (fun W => scale_any false s n W hs)
  have HN := Lib.hid (fun W => isNeg_any false s n W)
  have HTab := Lib.hid (fun i hi (W : World) hb => tab_at (W := W) hp i hi hb)
  subst hts
  subst hx
  have HQR := Lib.hid (fun W => quoRem_any n (10 ^ t) W hxl (Nat.pow_pos (by decide)) (Nat.pow_le_pow_right (by decide) (show t ≤ 19 by omega)))
  rw [hq, hr] at HQR
  have HSS := Lib.hid (show t < 20 by omega)
  have hov1 : decide ((9223372036854775807 : Int) < (q : Int)) = false := decide_eq_false (by omega)
  have hov2 : decide ((9223372036854775807 : Nat) < q) = false := decide_eq_false (by omega)
  have hrr1 : decide ((9223372036854775807 : Int) < (r : Int)) = false := decide_eq_false (by omega)
  have hrr2 : decide ((9223372036854775807 : Nat) < r) = false := decide_eq_false (by omega)
  have HQI : Hid (wrap64 (q : Int) = (q : Int)) := Lib.hid (w64' _ (by omega) (by omega))
  have HS : Hid (St w (w.alloc (.cells #[.bool false, .int .i8 t, .int .u64 n] 74)) [(w.heap.size, 0, .bool false), (w.heap.size, 1, .int .i8 t), (w.heap.size, 2, .int .u64 n)] w.heap.size 0) :=
    ⟨Cells.box3 (Cells.nil _) rfl _ _ _ _, fun o ho => absurd ho (by omega), by simp, (Below.refl _ _).alloc (Nat.le_refl _) _⟩
  have htm : t ≤ 19 := by omega
  clear hs hn hp hxl hq hr hov ht
  go_enter Tryd.func69, Tryd.ntmps69
  go_wp2_with (first | (go_at_call 83; go_must (refine (HC.out _).mono ?_); rintro e w2 ⟨rfl, hb⟩; first | (have HS7 := Lib.hid (HS6.out.call hb); obtain ⟨a07, a17, a27, -⟩ := HS7.out.cells; have tab7 := HTab.out t HSS.out _ HS7.out.below; clear hb) | (have HS3 := Lib.hid (HS2.out.call hb); obtain ⟨a03, a13, a23, -⟩ := HS3.out.cells; have tab3 := HTab.out t HSS.out _ HS3.out.below; clear hb) | (have HS2 := Lib.hid (HS.out.call hb); obtain ⟨a02, a12, a22, -⟩ := HS2.out.cells; have tab2 := HTab.out t HSS.out _ HS2.out.below; clear hb)) | (go_at_call 92; go_must (refine (HQR.out _).mono ?_); rintro e w6 ⟨rfl, hb⟩; have HS6 := Lib.hid (HS3.out.call hb); obtain ⟨a06, a16, a26, -⟩ := HS6.out.cells; have tab6 := HTab.out t HSS.out _ HS6.out.below; clear hb) | (go_at_call 81; go_must (refine (HN.out _).mono ?_); rintro e w10 ⟨rfl, hb⟩; have HSZ := Lib.hid (HS7.out.call hb); clear hb))
  go_ret3
  exact ⟨ret3 HQI.out rfl, HSZ.out.below⟩
set_option maxHeartbeats 4000000 in
set_option maxRecDepth 100000 in
theorem int64_gt_neg_over (n s t x q r : Nat) (w : World) (hs : s ≤ 19) (ht : t ≤ 18) (hn : n ≤ 9999999999999999999) (hp : PowAt w) (hts : s < t) (hx : n = x) (hxl : x ≤ 9999999999999999999) (hq : x / (10 ^ s) = q) (hr : x % (10 ^ s) * 10 ^ (t - s) = r) (hrl : r < 1000000000000000000) (hov : 9223372036854775808 < q) :
    Calls Tryd.prog 69 #[.agg #[.bool true, .int .i8 s, .int .u64 n], .int .i64 t] w fun e w' => e = .returned (.tuple #[.int .i64 0, .int .i64 0, .bool false]) ∧ Below w.heap.size w w' := by
  have HC := Lib.hid (fun W => scale_any true s n W hs)
  have HN := Lib.hid (fun W => isNeg_any true s n W)
  have HTab := Lib.hid (fun i hi (W : World) hb => tab_at (W := W) hp i hi hb)
  subst hx
  have HQR := Lib.hid (fun W => quoRem_any n (10 ^ s) W hxl (Nat.pow_pos (by decide)) (Nat.pow_le_pow_right (by decide) hs))
  obtain ⟨r0, hr0⟩ : ∃ r0, n % 10 ^ s = r0 := ⟨_, rfl⟩
  rw [hr0] at HQR hr
  rw [hq] at HQR
  obtain ⟨d, hd⟩ : ∃ d, t - s = d := ⟨_, rfl⟩
  rw [hd] at hr
  have HL := Lib.hid (fun W h => lsh_room r0 d r W (by omega) (by omega) hr (by omega) h)
  have hsd : (t : Int) - (s : Int) = (d : Int) := by omega
  have hst2 : s ≤ t := by omega
  have HD := Lib.hid (show d < 20 by omega)
  have ht1 : decide ((t : Int) < (s : Int)) = false := decide_eq_false (by omega)
  have ht2 : decide (t < s) = false := decide_eq_false (by omega)
  have ht3 : decide ((s : Int) < (t : Int)) = true := decide_eq_true (by omega)
  have ht4 : decide (s < t) = true := decide_eq_true hts
  have HSS := Lib.hid (show s < 20 by omega)
  have hov1 : decide ((9223372036854775808 : Int) < (q : Int)) = true := decide_eq_true (by omega)
  have hov2 : decide ((9223372036854775808 : Nat) < q) = true := decide_eq_true (by omega)
  have hrr1 : decide ((9223372036854775808 : Int) < (r : Int)) = false := decide_eq_false (by omega)
  have hrr2 : decide ((9223372036854775808 : Nat) < r) = false := decide_eq_false (by omega)
  have HS : Hid (St w (w.alloc (.cells #[.bool true, .int .i8 s, .int .u64 n] 74)) [(w.heap.size, 0, .bool true), (w.heap.size, 1, .int .i8 s), (w.heap.size, 2, .int .u64 n)] w.heap.size 0) :=
    ⟨Cells.box3 (Cells.nil _) rfl _ _ _ _, fun o ho => absurd ho (by omega), by simp, (Below.refl _ _).alloc (Nat.le_refl _) _⟩
  have htm : t ≤ 19 := by omega
  have hsm : s ≤ 19 := hs
  clear hs hn hp hxl hq hr hov ht hr0 hts hd
  go_enter Tryd.func69, Tryd.ntmps69
  go_wp2_with (first | (go_at_call 83; go_must (refine (HC.out _).mono ?_); rintro e w2 ⟨rfl, hb⟩; first | (have HS8 := Lib.hid (HS7.out.call hb); obtain ⟨a08, a18, a28, -⟩ := HS8.out.cells; have tab8 := HTab.out s HSS.out _ HS8.out.below; clear hb) | (have HS7 := Lib.hid (HS6.out.call hb); obtain ⟨a07, a17, a27, -⟩ := HS7.out.cells; have tab7 := HTab.out s HSS.out _ HS7.out.below; clear hb) | (have HS3 := Lib.hid (HS2.out.call hb); obtain ⟨a03, a13, a23, -⟩ := HS3.out.cells; have tab3 := HTab.out s HSS.out _ HS3.out.below; clear hb) | (have HS2 := Lib.hid (HS.out.call hb); obtain ⟨a02, a12, a22, -⟩ := HS2.out.cells; have tab2 := HTab.out s HSS.out _ HS2.out.below; clear hb)) | (go_at_call 92; go_must (refine (HQR.out _).mono ?_); rintro e w6 ⟨rfl, hb⟩; have HS6 := Lib.hid (HS3.out.call hb); obtain ⟨a06, a16, a26, -⟩ := HS6.out.cells; have tab6 := HTab.out s HSS.out _ HS6.out.below; clear hb) | (go_at_call 93; go_must (refine (HL.out _ (HTab.out d HD.out _ HS8.out.below)).mono ?_); rintro e w9 ⟨rfl, hb⟩; have HS9 := Lib.hid (HS8.out.call hb); obtain ⟨a09, a19, a29, -⟩ := HS9.out.cells; have tab9 := HTab.out s HSS.out _ HS9.out.below; clear hb) | (go_at_call 81; go_must (refine (HN.out _).mono ?_); rintro e w10 ⟨rfl, hb⟩; have HSZ := Lib.hid (HS9.out.call hb); clear hb))
  go_ret3
  exact ⟨rfl, HSZ.out.below⟩
set_option maxHeartbeats 4000000 in
set_option maxRecDepth 100000 in
theorem int64_gt_neg_in (n s t x q r : Nat) (w : World) (hs : s ≤ 19) (ht : t ≤ 18) (hn : n ≤ 9999999999999999999) (hp : PowAt w) (hts : s < t) (hx : n = x) (hxl : x ≤ 9999999999999999999) (hq : x / (10 ^ s) = q) (hr : x % (10 ^ s) * 10 ^ (t - s) = r) (hrl : r < 1000000000000000000) (hov : q ≤ 9223372036854775808) :
    Calls Tryd.prog 69 #[.agg #[.bool true, .int .i8 s, .int .u64 n], .int .i64 t] w fun e w' => e = .returned (.tuple #[.int .i64 (-(q : Int)), .int .i64 (-(r : Int)), .bool true]) ∧ Below w.heap.size w w' := by
  have HC := Lib.hid (fun W => scale_any true s n W hs)
  have HN := Lib.hid (fun W => isNeg_any true s n W)
  have HTab := Lib.hid (fun i hi (W : World) hb => tab_at (W := W) hp i hi hb)
  subst hx
  have HQR := Lib.hid (fun W => quoRem_any n (10 ^ s) W hxl (Nat.pow_pos (by decide)) (Nat.pow_le_pow_right (by decide) hs))
  obtain ⟨r0, hr0⟩ : ∃ r0, n % 10 ^ s = r0 := ⟨_, rfl⟩
  rw [hr0] at HQR hr
  rw [hq] at HQR
  obtain ⟨d, hd⟩ : ∃ d, t - s = d := ⟨_, rfl⟩
  rw [hd] at hr
  have HL := Lib.hid (fun W h => lsh_room r0 d r W (by omega) (by omega) hr (by omega) h)
  have hsd : (t : Int) - (s : Int) = (d : Int) := by omega
  have hst2 : s ≤ t := by omega
  have HD := Lib.hid (show d < 20 by omega)
  have ht1 : decide ((t : Int) < (s : Int)) = false := decide_eq_false (by omega)
  have ht2 : decide (t < s) = false := decide_eq_false (by omega)
  have ht3 : decide ((s : Int) < (t : Int)) = true := decide_eq_true (by omega)
  have ht4 : decide (s < t) = true := decide_eq_true hts
  have HSS := Lib.hid (show s < 20 by omega)
  have hov1 : decide ((9223372036854775808 : Int) < (q : Int)) = false := decide_eq_false (by omega)
  have hov2 : decide ((9223372036854775808 : Nat) < q) = false := decide_eq_false (by omega)
  have hrr1 : decide ((9223372036854775808 : Int) < (r : Int)) = false := decide_eq_false (by omega)
  have hrr2 : decide ((9223372036854775808 : Nat) < r) = false := decide_eq_false (by omega)
  have HQV := Lib.hid hov
  have HS : Hid (St w (w.alloc (.cells #[.bool true, .int .i8 s, .int .u64 n] 74)) [(w.heap.size, 0, .bool true), (w.heap.size, 1, .int .i8 s), (w.heap.size, 2, .int .u64 n)] w.heap.size 0) :=
    ⟨Cells.box3 (Cells.nil _) rfl _ _ _ _, fun o ho => absurd ho (by omega), by simp, (Below.refl _ _).alloc (Nat.le_refl _) _⟩
  have htm : t ≤ 19 := by omega
  have hsm : s ≤ 19 := hs
  clear hs hn hp hxl hq hr hov ht hr0 hts hd
  go_enter Tryd.func69, Tryd.ntmps69
  go_wp2_with (first | (go_at_call 83; go_must (refine (HC.out _).mono ?_); rintro e w2 ⟨rfl, hb⟩; first | (have HS8 := Lib.hid (HS7.out.call hb); obtain ⟨a08, a18, a28, -⟩ := HS8.out.cells; have tab8 := HTab.out s HSS.out _ HS8.out.below; clear hb) | (have HS7 := Lib.hid (HS6.out.call hb); obtain ⟨a07, a17, a27, -⟩ := HS7.out.cells; have tab7 := HTab.out s HSS.out _ HS7.out.below; clear hb) | (have HS3 := Lib.hid (HS2.out.call hb); obtain ⟨a03, a13, a23, -⟩ := HS3.out.cells; have tab3 := HTab.out s HSS.out _ HS3.out.below; clear hb) | (have HS2 := Lib.hid (HS.out.call hb); obtain ⟨a02, a12, a22, -⟩ := HS2.out.cells; have tab2 := HTab.out s HSS.out _ HS2.out.below; clear hb)) | (go_at_call 92; go_must (refine (HQR.out _).mono ?_); rintro e w6 ⟨rfl, hb⟩; have HS6 := Lib.hid (HS3.out.call hb); obtain ⟨a06, a16, a26, -⟩ := HS6.out.cells; have tab6 := HTab.out s HSS.out _ HS6.out.below; clear hb) | (go_at_call 93; go_must (refine (HL.out _ (HTab.out d HD.out _ HS8.out.below)).mono ?_); rintro e w9 ⟨rfl, hb⟩; have HS9 := Lib.hid (HS8.out.call hb); obtain ⟨a09, a19, a29, -⟩ := HS9.out.cells; have tab9 := HTab.out s HSS.out _ HS9.out.below; clear hb) | (go_at_call 81; go_must (refine (HN.out _).mono ?_); rintro e w10 ⟨rfl, hb⟩; have HSZ := Lib.hid (HS9.out.call hb); clear hb))
  go_ret3
  exact ⟨ret3 (wneg q HQV.out) rfl, HSZ.out.below⟩
set_option maxHeartbeats 4000000 in
set_option maxRecDepth 100000 in
theorem int64_gt_nat_over (n s t x q r : Nat) (w : World) (hs : s ≤ 19) (ht : t ≤ 18) (hn : n ≤ 9999999999999999999) (hp : PowAt w) (hts : s < t) (hx : n = x) (hxl : x ≤ 9999999999999999999) (hq : x / (10 ^ s) = q) (hr : x % (10 ^ s) * 10 ^ (t - s) = r) (hrl : r < 1000000000000000000) (hov : 9223372036854775807 < q) :
    Calls Tryd.prog 69 #[.agg #[.bool false, .int .i8 s, .int .u64 n], .int .i64 t] w fun e w' => e = .returned (.tuple #[.int .i64 0, .int .i64 0, .bool false]) ∧ Below w.heap.size w w' := by
  have HC := Lib.hid (fun W => scale_any false s n W hs)
  have HN := Lib.hid (fun W => isNeg_any false s n W)
  have HTab := Lib.hid (fun i hi (W : World) hb => tab_at (W := W) hp i hi hb)
  subst hx
  have HQR := Lib.hid (fun W => quoRem_any n (10 ^ s) W hxl (Nat.pow_pos (by decide)) (Nat.pow_le_pow_right (by decide) hs))
  obtain ⟨r0, hr0⟩ : ∃ r0, n % 10 ^ s = r0 := ⟨_, rfl⟩
  rw [hr0] at HQR hr
  rw [hq] at HQR
  obtain ⟨d, hd⟩ : ∃ d, t - s = d := ⟨_, rfl⟩
  rw [hd] at hr
  have HL := Lib.hid (fun W h => lsh_room r0 d r W (by omega) (by omega) hr (by omega) h)
  have hsd : (t : Int) - (s : Int) = (d : Int) := by omega
  have hst2 : s ≤ t := by omega
  have HD := Lib.hid (show d < 20 by omega)
  have ht1 : decide ((t : Int) < (s : Int)) = false := decide_eq_false (by omega)
  have ht2 : decide (t < s) = false := decide_eq_false (by omega)
  have ht3 : decide ((s : Int) < (t : Int)) = true := decide_eq_true (by omega)
  have ht4 : decide (s < t) = true := decide_eq_true hts
  have HSS := Lib.hid (show s < 20 by omega)
  have hov1 : decide ((9223372036854775807 : Int) < (q : Int)) = true := decide_eq_true (by omega)
  have hov2 : decide ((9223372036854775807 : Nat) < q) = true := decide_eq_true (by omega)
  have hrr1 : decide ((9223372036854775807 : Int) < (r : Int)) = false := decide_eq_false (by omega)
  have hrr2 : decide ((9223372036854775807 : Nat) < r) = false := decide_eq_false (by omega)
  have HS : Hid (St w (w.alloc (.cells #[.bool false, .int .i8 s, .int .u64 n] 74)) [(w.heap.size, 0, .bool false), (w.heap.size, 1, .int .i8 s), (w.heap.size, 2, .int .u64 n)] w.heap.size 0) :=
    ⟨Cells.box3 (Cells.nil _) rfl _ _ _ _, fun o ho => absurd ho (by omega), by simp, (Below.refl _ _).alloc (Nat.le_refl _) _⟩
  have htm : t ≤ 19 := by omega
  have hsm : s ≤ 19 := hs
  clear hs hn hp hxl hq hr hov ht hr0 hts hd
  go_enter Tryd.func69, Tryd.ntmps69
  go_wp2_with (first | (go_at_call 83; go_must (refine (HC.out _).mono ?_); rintro e w2 ⟨rfl, hb⟩; first | (have HS8 := Lib.hid (HS7.out.call hb); obtain ⟨a08, a18, a28, -⟩ := HS8.out.cells; have tab8 := HTab.out s HSS.out _ HS8.out.below; clear hb) | (have HS7 := Lib.hid (HS6.out.call hb); obtain ⟨a07, a17, a27, -⟩ := HS7.out.cells; have tab7 := HTab.out s HSS.out _ HS7.out.below; clear hb) | (have HS3 := Lib.hid (HS2.out.call hb); obtain ⟨a03, a13, a23, -⟩ := HS3.out.cells; have tab3 := HTab.out s HSS.out _ HS3.out.below; clear hb) | (have HS2 := Lib.hid (HS.out.call hb); obtain ⟨a02, a12, a22, -⟩ := HS2.out.cells; have tab2 := HTab.out s HSS.out _ HS2.out.below; clear hb)) | (go_at_call 92; go_must (refine (HQR.out _).mono ?_); rintro e w6 ⟨rfl, hb⟩; have HS6 := Lib.hid (HS3.out.call hb); obtain ⟨a06, a16, a26, -⟩ := HS6.out.cells; have tab6 := HTab.out s HSS.out _ HS6.out.below; clear hb) | (go_at_call 93; go_must (refine (HL.out _ (HTab.out d HD.out _ HS8.out.below)).mono ?_); rintro e w9 ⟨rfl, hb⟩; have HS9 := Lib.hid (HS8.out.call hb); obtain ⟨a09, a19, a29, -⟩ := HS9.out.cells; have tab9 := HTab.out s HSS.out _ HS9.out.below; clear hb) | (go_at_call 81; go_must (refine (HN.out _).mono ?_); rintro e w10 ⟨rfl, hb⟩; have HSZ := Lib.hid (HS9.out.call hb); clear hb))
  go_ret3
  exact ⟨rfl, HSZ.out.below⟩
set_option maxHeartbeats 4000000 in
set_option maxRecDepth 100000 in
theorem int64_gt_nat_in (n s t x q r : Nat) (w : World) (hs : s ≤ 19) (ht : t ≤ 18) (hn : n ≤ 9999999999999999999) (hp : PowAt w) (hts : s < t) (hx : n = x) (hxl : x ≤ 9999999999999999999) (hq : x / (10 ^ s) = q) (hr : x % (10 ^ s) * 10 ^ (t - s) = r) (hrl : r < 1000000000000000000) (hov : q ≤ 9223372036854775807) :
    Calls Tryd.prog 69 #[.agg #[.bool false, .int .i8 s, .int .u64 n], .int .i64 t] w fun e w' => e = .returned (.tuple #[.int .i64 q, .int .i64 r, .bool true]) ∧ Below w.heap.size w w' := by
  have HC := Lib.hid (fun W => scale_any false s n W hs)
  have HN := Lib.hid (fun W => isNeg_any false s n W)
  have HTab := Lib.hid (fun i hi (W : World) hb => tab_at (W := W) hp i hi hb)
  subst hx
  have HQR := Lib.hid (fun W => quoRem_any n (10 ^ s) W hxl (Nat.pow_pos (by decide)) (Nat.pow_le_pow_right (by decide) hs))
  obtain ⟨r0, hr0⟩ : ∃ r0, n % 10 ^ s = r0 := ⟨_, rfl⟩
  rw [hr0] at HQR hr
  rw [hq] at HQR
  obtain ⟨d, hd⟩ : ∃ d, t - s = d := ⟨_, rfl⟩
  rw [hd] at hr
  have HL := Lib.hid (fun W h => lsh_room r0 d r W (by omega) (by omega) hr (by omega) h)
  have hsd : (t : Int) - (s : Int) = (d : Int) := by omega
  have hst2 : s ≤ t := by omega
  have HD := Lib.hid (show d < 20 by omega)
  have ht1 : decide ((t : Int) < (s : Int)) = false := decide_eq_false (by omega)
  have ht2 : decide (t < s) = false := decide_eq_false (by omega)
  have ht3 : decide ((s : Int) < (t : Int)) = true := decide_eq_true (by omega)
  have ht4 : decide (s < t) = true := decide_eq_true hts
  have HSS := Lib.hid (show s < 20 by omega)
  have hov1 : decide ((9223372036854775807 : Int) < (q : Int)) = false := decide_eq_false (by omega)
  have hov2 : decide ((9223372036854775807 : Nat) < q) = false := decide_eq_false (by omega)
  have hrr1 : decide ((9223372036854775807 : Int) < (r : Int)) = false := decide_eq_false (by omega)
  have hrr2 : decide ((9223372036854775807 : Nat) < r) = false := decide_eq_false (by omega)
  have HQI : Hid (wrap64 (q : Int) = (q : Int)) := Lib.hid (w64' _ (by omega) (by omega))
  have HS : Hid (St w (w.alloc (.cells #[.bool false, .int .i8 s, .int .u64 n] 74)) [(w.heap.size, 0, .bool false), (w.heap.size, 1, .int .i8 s), (w.heap.size, 2, .int .u64 n)] w.heap.size 0) :=
    ⟨Cells.box3 (Cells.nil _) rfl _ _ _ _, fun o ho => absurd ho (by omega), by simp, (Below.refl _ _).alloc (Nat.le_refl _) _⟩
  have htm : t ≤ 19 := by omega
  have hsm : s ≤ 19 := hs
  clear hs hn hp hxl hq hr hov ht hr0 hts hd
  go_enter Tryd.func69, Tryd.ntmps69
  go_wp2_with (first | (go_at_call 83; go_must (refine (HC.out _).mono ?_); rintro e w2 ⟨rfl, hb⟩; first | (have HS8 := Lib.hid (HS7.out.call hb); obtain ⟨a08, a18, a28, -⟩ := HS8.out.cells; have tab8 := HTab.out s HSS.out _ HS8.out.below; clear hb) | (have HS7 := Lib.hid (HS6.out.call hb); obtain ⟨a07, a17, a27, -⟩ := HS7.out.cells; have tab7 := HTab.out s HSS.out _ HS7.out.below; clear hb) | (have HS3 := Lib.hid (HS2.out.call hb); obtain ⟨a03, a13, a23, -⟩ := HS3.out.cells; have tab3 := HTab.out s HSS.out _ HS3.out.below; clear hb) | (have HS2 := Lib.hid (HS.out.call hb); obtain ⟨a02, a12, a22, -⟩ := HS2.out.cells; have tab2 := HTab.out s HSS.out _ HS2.out.below; clear hb)) | (go_at_call 92; go_must (refine (HQR.out _).mono ?_); rintro e w6 ⟨rfl, hb⟩; have HS6 := Lib.hid (HS3.out.call hb); obtain ⟨a06, a16, a26, -⟩ := HS6.out.cells; have tab6 := HTab.out s HSS.out _ HS6.out.below; clear hb) | (go_at_call 93; go_must (refine (HL.out _ (HTab.out d HD.out _ HS8.out.below)).mono ?_); rintro e w9 ⟨rfl, hb⟩; have HS9 := Lib.hid (HS8.out.call hb); obtain ⟨a09, a19, a29, -⟩ := HS9.out.cells; have tab9 := HTab.out s HSS.out _ HS9.out.below; clear hb) | (go_at_call 81; go_must (refine (HN.out _).mono ?_); rintro e w10 ⟨rfl, hb⟩; have HSZ := Lib.hid (HS9.out.call hb); clear hb))
  go_ret3
  exact ⟨ret3 HQI.out rfl, HSZ.out.below⟩
end Go.Proofs.YthkmgjkajllemaaDoor.Spec

/- FixInts: the door to Int64. -/
namespace Go.Proofs.YthkmgjkajllemaaDoor.Spec
open Go.RowKit Go.Proofs.YthkmgjkajllemaaDoorW.PrintWords Go.Proofs.YthkmgjkajllemaaDoor.Make
set_option linter.unusedVariables false
set_option linter.unusedSimpArgs false

theorem idle68 (p q r s : Addr) (w : World) :
    CallsD Tryd.prog 68 #[.pointer (some p), .pointer (some q), .pointer (some r), .pointer (some s)] .returning w fun e u' w' => e = .returned (.tuple #[]) ∧ u' = .returning ∧ w' = w := by
  refine callsD_of_wpS Tryd.func68 rfl fun c₀ cs hu => ?_
  apply wpS_seq
  apply wpS_region
  simp [wpOpsS, go_sem, recoverD, hu, Tryd.ntmps68, Exit.thenS]
  refine wpS_cond (t := false) (by simp [Act.eval, Array.replicate]) ?_
  simp only [Bool.false_eq_true, if_false]
  refine wpS_of_wp (wp_skip ?_)
  cases c₀
  simp_all [bodyPostS, results, Tryd.results68]

set_option maxHeartbeats 2000000 in
set_option maxRecDepth 100000 in
theorem fixInts_ok (neg : Bool) (n s : Nat) (z a c : Int) (ok : Bool) (w : World) (hs : s ≤ 19) (hn : n ≤ 9999999999999999999)
    (hc : ∀ W, Below w.heap.size w W → Calls Tryd.prog 69 #[.agg #[.bool (neg && decide (0 < n)), .int .i8 s, .int .u64 n], .int .i64 z] W fun e w' => e = .returned (.tuple #[.int .i64 a, .int .i64 c, .bool ok]) ∧ Below W.heap.size W w') :
    Calls Tryd.prog 32 #[.agg #[.bool neg, .int .u64 n, .int .i64 s], .int .i64 z] w fun e w' => e = .returned (.tuple #[.int .i64 a, .int .i64 c, .bool ok, .int .i64 0]) ∧ Below w.heap.size w w' := by
  have hmf : ∀ (fn : Fn) (first cap : Array Value) (w : World), (Instr.makeFunc fn first cap).run Tryd.prog w = .ok (.func fn first cap) w := fun _ _ _ _ => rfl
  have HX := Lib.hid (fun W => fixed_ok neg n s W hs hn)
  have HZ := Lib.hid hc
  generalize (neg && decide (0 < n)) = b at HX HZ
  have HR1 : Hid (St w (((((w.alloc (.cells #[.bool neg, .int .u64 n, .int .i64 s] 32)).alloc (.cells #[.int .i64 0] 2)).alloc (.cells #[.int .i64 0] 2)).alloc (.cells #[.bool false] 4)).alloc (.cells #[.int .i64 0] 3)) [(w.heap.size + 1, 0, .int .i64 0)] (w.heap.size + 1) 1) := Lib.hid ((((show St w ((w.alloc (.cells #[.bool neg, .int .u64 n, .int .i64 s] 32)).alloc (.cells #[.int .i64 0] 2)) [(w.heap.size + 1, 0, .int .i64 0)] (w.heap.size + 1) 1 from ⟨Cells.box1 (Cells.nil _) (by simp) _ _, fun o _ => free_box (by simp) _ _ _, by simp, (((Below.refl w.heap.size w).alloc (Nat.le_refl _) _).alloc (by simp) _)⟩).call ((Below.refl _ _).alloc (Nat.le_refl _) _)).call ((Below.refl _ _).alloc (Nat.le_refl _) _)).call ((Below.refl _ _).alloc (Nat.le_refl _) _))
  have HR2 : Hid (St w (((((w.alloc (.cells #[.bool neg, .int .u64 n, .int .i64 s] 32)).alloc (.cells #[.int .i64 0] 2)).alloc (.cells #[.int .i64 0] 2)).alloc (.cells #[.bool false] 4)).alloc (.cells #[.int .i64 0] 3)) [(w.heap.size + 1 + 1, 0, .int .i64 0)] (w.heap.size + 1 + 1) 1) := Lib.hid (((show St w (((w.alloc (.cells #[.bool neg, .int .u64 n, .int .i64 s] 32)).alloc (.cells #[.int .i64 0] 2)).alloc (.cells #[.int .i64 0] 2)) [(w.heap.size + 1 + 1, 0, .int .i64 0)] (w.heap.size + 1 + 1) 1 from ⟨Cells.box1 (Cells.nil _) (by simp) _ _, fun o _ => free_box (by simp) _ _ _, by simp, ((((Below.refl w.heap.size w).alloc (Nat.le_refl _) _).alloc (by simp) _).alloc (by simp <;> omega) _)⟩).call ((Below.refl _ _).alloc (Nat.le_refl _) _)).call ((Below.refl _ _).alloc (Nat.le_refl _) _))
  have HR3 : Hid (St w (((((w.alloc (.cells #[.bool neg, .int .u64 n, .int .i64 s] 32)).alloc (.cells #[.int .i64 0] 2)).alloc (.cells #[.int .i64 0] 2)).alloc (.cells #[.bool false] 4)).alloc (.cells #[.int .i64 0] 3)) [(w.heap.size + 1 + 1 + 1, 0, .bool false)] (w.heap.size + 1 + 1 + 1) 1) := Lib.hid ((show St w ((((w.alloc (.cells #[.bool neg, .int .u64 n, .int .i64 s] 32)).alloc (.cells #[.int .i64 0] 2)).alloc (.cells #[.int .i64 0] 2)).alloc (.cells #[.bool false] 4)) [(w.heap.size + 1 + 1 + 1, 0, .bool false)] (w.heap.size + 1 + 1 + 1) 1 from ⟨Cells.box1 (Cells.nil _) (by simp) _ _, fun o _ => free_box (by simp) _ _ _, by simp, (((((Below.refl w.heap.size w).alloc (Nat.le_refl _) _).alloc (by simp) _).alloc (by simp <;> omega) _).alloc (by simp <;> omega) _)⟩).call ((Below.refl _ _).alloc (Nat.le_refl _) _))
  have HR4 : Hid (St w (((((w.alloc (.cells #[.bool neg, .int .u64 n, .int .i64 s] 32)).alloc (.cells #[.int .i64 0] 2)).alloc (.cells #[.int .i64 0] 2)).alloc (.cells #[.bool false] 4)).alloc (.cells #[.int .i64 0] 3)) [(w.heap.size + 1 + 1 + 1 + 1, 0, .int .i64 0)] (w.heap.size + 1 + 1 + 1 + 1) 1) := Lib.hid (show St w (((((w.alloc (.cells #[.bool neg, .int .u64 n, .int .i64 s] 32)).alloc (.cells #[.int .i64 0] 2)).alloc (.cells #[.int .i64 0] 2)).alloc (.cells #[.bool false] 4)).alloc (.cells #[.int .i64 0] 3)) [(w.heap.size + 1 + 1 + 1 + 1, 0, .int .i64 0)] (w.heap.size + 1 + 1 + 1 + 1) 1 from ⟨Cells.box1 (Cells.nil _) (by simp) _ _, fun o _ => free_box (by simp) _ _ _, by simp, ((((((Below.refl w.heap.size w).alloc (Nat.le_refl _) _).alloc (by simp) _).alloc (by simp <;> omega) _).alloc (by simp <;> omega) _).alloc (by simp <;> omega) _)⟩)
  clear hs hn hc
  go_enter_defers Tryd.func32, Tryd.ntmps32
  go_wp2_with (first | (go_at_call 48; go_must (refine (HX.out _).mono ?_); rintro e w2 ⟨rfl, hb⟩; have HR1a := Lib.hid (HR1.out.call hb); have HR2a := Lib.hid (HR2.out.call hb); have HR3a := Lib.hid (HR3.out.call hb); have HR4a := Lib.hid (HR4.out.call hb); clear hb) | (go_at_call 69; go_must (refine (HZ.out _ (below_at HR1a.out.below _)).mono ?_); rintro e w3 ⟨rfl, hb⟩; have hb1 := below_one _ hb; have HR1b := Lib.hid (HR1a.out.call hb1); have HR2b := Lib.hid (HR2a.out.call hb1); have HR3b := Lib.hid (HR3a.out.call hb1); have HR4b := Lib.hid (HR4a.out.call hb1); obtain ⟨c1b, -⟩ := HR1b.out.cells; have f1b := HR1b.out.free 0 (by omega); have l1b := HR1b.out.lt; obtain ⟨c2b, -⟩ := HR2b.out.cells; have f2b := HR2b.out.free 0 (by omega); have l2b := HR2b.out.lt; obtain ⟨c3b, -⟩ := HR3b.out.cells; have f3b := HR3b.out.free 0 (by omega); have l3b := HR3b.out.lt; obtain ⟨c4b, -⟩ := HR4b.out.cells; have f4b := HR4b.out.free 0 (by omega); have l4b := HR4b.out.lt; clear hb hb1))
  obtain ⟨W, hW⟩ : ∃ W, ((w3.setCell ⟨w.heap.size + 1, 0, none⟩ (.int .i64 a)).setCell ⟨w.heap.size + 1 + 1, 0, none⟩ (.int .i64 c)).setCell ⟨w.heap.size + 1 + 1 + 1, 0, none⟩ (.bool ok) = W := ⟨_, rfl⟩
  have e1 : W.cell? ⟨w.heap.size + 1, 0, none⟩ = some (.int .i64 a) := by rw [← hW]; simp [go_sem, c1b, c2b, c3b, c4b]
  have g1 : W.frozen? ⟨w.heap.size + 1, 0, none⟩ = false := by rw [← hW]; simpa using f1b
  have z1 : w.heap.size + 1 < W.heap.size := by rw [← hW]; simpa using l1b
  have e2 : W.cell? ⟨w.heap.size + 1 + 1, 0, none⟩ = some (.int .i64 c) := by rw [← hW]; simp [go_sem, c1b, c2b, c3b, c4b]
  have g2 : W.frozen? ⟨w.heap.size + 1 + 1, 0, none⟩ = false := by rw [← hW]; simpa using f2b
  have z2 : w.heap.size + 1 + 1 < W.heap.size := by rw [← hW]; simpa using l2b
  have e3 : W.cell? ⟨w.heap.size + 1 + 1 + 1, 0, none⟩ = some (.bool ok) := by rw [← hW]; simp [go_sem, c1b, c2b, c3b, c4b]
  have g3 : W.frozen? ⟨w.heap.size + 1 + 1 + 1, 0, none⟩ = false := by rw [← hW]; simpa using f3b
  have z3 : w.heap.size + 1 + 1 + 1 < W.heap.size := by rw [← hW]; simpa using l3b
  have e4 : W.cell? ⟨w.heap.size + 1 + 1 + 1 + 1, 0, none⟩ = some (.int .i64 0) := by rw [← hW]; simp [go_sem, c1b, c2b, c3b, c4b]
  have g4 : W.frozen? ⟨w.heap.size + 1 + 1 + 1 + 1, 0, none⟩ = false := by rw [← hW]; simpa using f4b
  have z4 : w.heap.size + 1 + 1 + 1 + 1 < W.heap.size := by rw [← hW]; simpa using l4b
  have HBW : Hid (Below w.heap.size w W) := by rw [← hW]; exact Lib.hid (((HR1b.out.below.setCell (p := ⟨w.heap.size + 1, 0, none⟩) (by show w.heap.size ≤ w.heap.size + 1; omega) _).setCell (p := ⟨w.heap.size + 1 + 1, 0, none⟩) (by show w.heap.size ≤ w.heap.size + 1 + 1; omega) _).setCell (p := ⟨w.heap.size + 1 + 1 + 1, 0, none⟩) (by show w.heap.size ≤ w.heap.size + 1 + 1 + 1; omega) _)
  rw [hW]
  clear hW c1b c2b c3b c4b f1b f2b f3b f4b l1b l2b l3b l4b
  go_region_held3 (fun W' => W'.cell? ⟨w.heap.size + 1, 0, none⟩ = some (.int .i64 a) ∧ W'.cell? ⟨w.heap.size + 1 + 1, 0, none⟩ = some (.int .i64 c) ∧ W'.cell? ⟨w.heap.size + 1 + 1 + 1, 0, none⟩ = some (.bool ok)) (first | (go_keep; done) | (simp [go_sem, e1, e2, e3, e4]; done)) (fail)
  go_wp2_with fail
  refine leaves_cons (f := 68) (args := #[.pointer (some ⟨w.heap.size + 1, 0, none⟩), .pointer (some ⟨w.heap.size + 1 + 1, 0, none⟩), .pointer (some ⟨w.heap.size + 1 + 1 + 1, 0, none⟩), .pointer (some ⟨w.heap.size + 1 + 1 + 1 + 1, 0, none⟩)]) (by simp) (by simp [go_sem]) ?_
  refine (idle68 _ _ _ _ _).mono ?_
  rintro e u' w'' ⟨rfl, rfl, rfl⟩
  have HE := (((((below_drew HBW.out).setCell (p := ⟨w.heap.size + 1, 0, none⟩) (by show w.heap.size ≤ w.heap.size + 1; omega) (.int .i64 a)).setCell (p := ⟨w.heap.size + 1 + 1, 0, none⟩) (by show w.heap.size ≤ w.heap.size + 1 + 1; omega) (.int .i64 c)).setCell (p := ⟨w.heap.size + 1 + 1 + 1, 0, none⟩) (by show w.heap.size ≤ w.heap.size + 1 + 1 + 1; omega) (.bool ok)).setCell (p := ⟨w.heap.size + 1 + 1 + 1 + 1, 0, none⟩) (by show w.heap.size ≤ w.heap.size + 1 + 1 + 1 + 1; omega) (.int .i64 0))
  have hn12 : w.heap.size + 1 ≠ w.heap.size + 1 + 1 := by omega
  simp [Leaves, settle, results, Tryd.results32, go_sem, e1, e2, e3, e4, g1, g2, g3, g4]
  exact HE
end Go.Proofs.YthkmgjkajllemaaDoor.Spec

/- FixIs, FixHas, FixSame. -/
namespace Go.Proofs.YthkmgjkajllemaaDoor.Spec
open Go.RowKit Go.Proofs.YthkmgjkajllemaaDoorW.PrintWords Go.Proofs.YthkmgjkajllemaaDoor.Num Go.Proofs.YthkmgjkajllemaaDoor.Str Go.Proofs.YthkmgjkajllemaaDoor.Nats Go.Proofs.YthkmgjkajllemaaDoor.Val Go.Proofs.YthkmgjkajllemaaDoor.Arith Go.Proofs.YthkmgjkajllemaaDoor.NatOps Go.Proofs.YthkmgjkajllemaaDoor.Make
set_option linter.unusedVariables false
set_option linter.unusedSimpArgs false

theorem fixIs_ok (neg : Bool) (n s : Nat) (w : World) (hn : n ≤ 9999999999999999999) (hs : s ≤ 19) :
    Calls Tryd.prog 20 #[.agg #[.bool neg, .int .u64 n, .int .i64 s]] w fun e w' => e = .returned (.bool true) ∧ Below w.heap.size w w' := by
  have g0 : decide ((n : Int) ≤ 9999999999999999999) = true := decide_eq_true (by omega)
  have g1 : decide ((0 : Int) ≤ (s : Int)) = true := decide_eq_true (by omega)
  have g2 : decide ((s : Int) ≤ 19) = true := decide_eq_true (by omega)
  clear hn hs
  go_enter Tryd.func20, Tryd.ntmps20
  go_wp2
  go_ret
  exact ⟨rfl, (Below.refl _ _).alloc (Nat.le_refl _) _⟩
theorem fixIs_big (neg : Bool) (n : Nat) (s : Int) (w : World) (hn : 9999999999999999999 < n) :
    Calls Tryd.prog 20 #[.agg #[.bool neg, .int .u64 n, .int .i64 s]] w fun e w' => e = .returned (.bool false) ∧ Below w.heap.size w w' := by
  have g0 : decide ((n : Int) ≤ 9999999999999999999) = false := decide_eq_false (by omega)
  clear hn
  go_enter Tryd.func20, Tryd.ntmps20
  go_wp2
  go_ret
  exact ⟨rfl, (Below.refl _ _).alloc (Nat.le_refl _) _⟩
theorem fixIs_scale (neg : Bool) (n : Nat) (s : Int) (w : World) (hn : n ≤ 9999999999999999999) (hs : s < 0 ∨ 19 < s) :
    Calls Tryd.prog 20 #[.agg #[.bool neg, .int .u64 n, .int .i64 s]] w fun e w' => e = .returned (.bool false) ∧ Below w.heap.size w w' := by
  have g0 : decide ((n : Int) ≤ 9999999999999999999) = true := decide_eq_true (by omega)
  clear hn
  by_cases h : s < 0
  · have g1 : decide ((0 : Int) ≤ s) = false := decide_eq_false (by omega)
    clear h hs
    go_enter Tryd.func20, Tryd.ntmps20
    go_wp2
    go_ret
    exact ⟨rfl, (Below.refl _ _).alloc (Nat.le_refl _) _⟩
  · have g1 : decide ((0 : Int) ≤ s) = true := decide_eq_true (by omega)
    have g2 : decide (s ≤ 19) = false := decide_eq_false (by omega)
    clear h hs
    go_enter Tryd.func20, Tryd.ntmps20
    go_wp2
    go_ret
    exact ⟨rfl, (Below.refl _ _).alloc (Nat.le_refl _) _⟩

theorem icmp_zero {p q : Int} (h : p = q) : icmp p q = 0 := by unfold icmp; rw [if_neg (by omega), if_pos h]

set_option maxHeartbeats 4000000 in
set_option maxRecDepth 100000 in
/-- FixHas, where it is so. -/
theorem fixHas_true (neg : Bool) (n s : Nat) (q : Int) (f : Nat) (u v : Value) (w : World) (hn : n ≤ 9999999999999999999) (hs : s ≤ 19) (hneg : neg = true → 0 < n) (hu : IsNat w u q.natAbs) (hv : IsNat w v f)
    (hq : (limbs q.natAbs).length < 1000) (hf : (limbs f).length < 1000) (heq : fz neg n * f = q * (10 ^ s : Nat)) (hl : (limbs (q * ((10 ^ s : Nat) : Int)).natAbs).length < 1000000) :
    Calls Tryd.prog 54 #[.agg #[.bool neg, .int .u64 n, .int .i64 s], .agg #[.bool (decide (q < 0)), u, v]] w fun e w' => e = .returned (.bool true) ∧ Below w.heap.size w w' := by
  have hlt : n < 18446744073709551616 := by omega
  have hn3 := limbs_length 3 n (by omega)
  have hp3 := limbs_length 3 (10 ^ s) (Nat.lt_of_le_of_lt (Nat.pow_le_pow_right (by decide) hs) (by decide))
  have HI := Lib.hid (fun W => fixIs_ok neg n s W hn hs)
  have HN := Lib.hid (fun W => fixNum_any neg n s W hlt (by omega))
  have HC := Lib.hid (fun u' v' W (h1 : IsNat W u' n) h2 h3 h4 => fracCmp_any (fz neg n) q (10 ^ s) f u' v' u v W (by rw [fz_abs]; exact h1) h2 h3 h4 (by rw [fz_abs]; omega) (by omega) hq hf (by rw [heq]; exact hl) hl)
  rw [icmp_zero heq] at HC
  have HU := Lib.hid (fun (W : World) (hb : Below w.heap.size w W) => hu.below hb)
  have HV := Lib.hid (fun (W : World) (hb : Below w.heap.size w W) => hv.below hb)
  obtain ⟨A, c, rfl, hc, hr⟩ := hu
  obtain ⟨B, cb, rfl, hcb, hrb⟩ := hv
  generalize decide (q < 0) = y at *
  generalize decide (fz neg n < 0) = x at *
  generalize (limbs q.natAbs).length = lq at *
  generalize (limbs f).length = lf at *
  have hb : (neg = false) ∨ (neg = true ∧ ((n : Int) == 0) = false ∧ decide ((n : Int) = 0) = false) := by
    cases neg with
    | false => exact .inl rfl
    | true => exact .inr ⟨rfl, beq_eq_false_iff_ne.2 (by have := hneg rfl; omega), decide_eq_false (by have := hneg rfl; omega)⟩
  clear hr hrb hc hcb hlt hn3 hp3 hq hf heq hl hneg hn
  have HS : Hid (St w ((w.alloc (.cells #[.bool neg, .int .u64 n, .int .i64 s] 32)).alloc (.cells #[.bool y, .slice A lq c, .slice B lf cb] 45))
      [(w.heap.size + 1, 0, .bool y), (w.heap.size + 1, 1, .slice A lq c), (w.heap.size + 1, 2, .slice B lf cb), (w.heap.size, 0, .bool neg), (w.heap.size, 1, .int .u64 n), (w.heap.size, 2, .int .i64 s)] (w.heap.size + 1) 3) :=
    ⟨Cells.box3 (Cells.box3 (Cells.nil _) rfl _ _ _ _) (by simp) _ _ _ _, fun o _ => free_box (by simp) _ _ _, by simp, ((Below.refl _ _).alloc (Nat.le_refl _) _).alloc (by simp) _⟩
  rcases hb with rfl | ⟨rfl, h0, h00⟩
  · go_enter Tryd.func54, Tryd.ntmps54
    go_wp2
    obtain ⟨W, hW⟩ : ∃ W, (w.alloc (.cells #[.bool false, .int .u64 n, .int .i64 s] 32)).alloc (.cells #[.bool y, .slice A lq c, .slice B lf cb] 45) = W := ⟨_, rfl⟩
    rw [hW] at HS ⊢
    clear hW
    have HS1 := Lib.hid (HS.out.call (below_drew (Below.refl _ _)))
    clear HS
    obtain ⟨a0, a1, a2, b0, b1, b2, -⟩ := HS1.out.cells
    have a0 : W.cell? _ = _ := a0
    have a1 : W.cell? _ = _ := a1
    have a2 : W.cell? _ = _ := a2
    have b0 : W.cell? _ = _ := b0
    have b1 : W.cell? _ = _ := b1
    have b2 : W.cell? _ = _ := b2
    first | (go_region_with (first | (go_at_call 20; (refine (HI.out _).mono ?_); rintro e w2 ⟨rfl, hb⟩; have HS2 := Lib.hid (HS1.out.call hb); obtain ⟨a02, a12, a22, b02, b12, b22, -⟩ := HS2.out.cells; clear hb) | (go_at_call 66; (refine (HN.out _).mono ?_); rintro e w3 ⟨u', v', rfl, hn, hn', hb⟩; have HS3 := Lib.hid (HS2.out.call hb); have HG3 := Lib.hid hn; have HG3' := Lib.hid hn'; obtain ⟨A3, c3, rfl⟩ := hn.slice; obtain ⟨A4, c4, rfl⟩ := hn'.slice; obtain ⟨a03, a13, a23, b03, b13, b23, -⟩ := HS3.out.cells; clear hn hn' hb) | (go_at_call 36; (refine (HC.out _ _ _ HG3.out.isNat HG3'.out.isNat (HU.out _ HS3.out.below) (HV.out _ HS3.out.below)).mono ?_); rintro e w4 ⟨rfl, hb⟩; have HS4 := Lib.hid (HS3.out.call hb); clear hb))) | fail "no"
    all_goals (go_wp2; go_ret; exact ⟨rfl, HS4.out.below⟩)
  · go_enter Tryd.func54, Tryd.ntmps54
    go_wp2
    obtain ⟨W, hW⟩ : ∃ W, (w.alloc (.cells #[.bool true, .int .u64 n, .int .i64 s] 32)).alloc (.cells #[.bool y, .slice A lq c, .slice B lf cb] 45) = W := ⟨_, rfl⟩
    rw [hW] at HS ⊢
    clear hW
    have HS1 := Lib.hid (HS.out.call (below_drew (Below.refl _ _)))
    clear HS
    go_region_held3 (fun W' => W'.cell? ⟨w.heap.size + 1, 0, none⟩ = some (.bool y) ∧ W'.cell? ⟨w.heap.size + 1, 1, none⟩ = some (.slice A lq c) ∧ W'.cell? ⟨w.heap.size + 1, 2, none⟩ = some (.slice B lf cb) ∧ W'.cell? ⟨w.heap.size, 0, none⟩ = some (.bool true) ∧ W'.cell? ⟨w.heap.size, 1, none⟩ = some (.int .u64 n) ∧ W'.cell? ⟨w.heap.size, 2, none⟩ = some (.int .i64 s))
      (first | exact (by have h := HS4.out.cells; exact ⟨h.1, h.2.1, h.2.2.1, h.2.2.2.1, h.2.2.2.2.1, h.2.2.2.2.2.1⟩) | exact (by have h := HS3.out.cells; exact ⟨h.1, h.2.1, h.2.2.1, h.2.2.2.1, h.2.2.2.2.1, h.2.2.2.2.2.1⟩) | exact (by have h := HS2.out.cells; exact ⟨h.1, h.2.1, h.2.2.1, h.2.2.2.1, h.2.2.2.2.1, h.2.2.2.2.2.1⟩) | exact (by have h := HS1.out.cells; exact ⟨h.1, h.2.1, h.2.2.1, h.2.2.2.1, h.2.2.2.2.1, h.2.2.2.2.2.1⟩) | go_keep)
      (first | (go_at_call 20; (refine (HI.out _).mono ?_); rintro e w2 ⟨rfl, hb⟩; have HS2 := Lib.hid (HS1.out.call hb); clear hb) | (go_at_call 66; (refine (HN.out _).mono ?_); rintro e w3 ⟨u', v', rfl, hn, hn', hb⟩; have HS3 := Lib.hid (HS2.out.call hb); have HG3 := Lib.hid hn; have HG3' := Lib.hid hn'; obtain ⟨A3, c3, rfl⟩ := hn.slice; obtain ⟨A4, c4, rfl⟩ := hn'.slice; clear hn hn' hb) | (go_at_call 36; (refine (HC.out _ _ _ HG3.out.isNat HG3'.out.isNat (HU.out _ HS3.out.below) (HV.out _ HS3.out.below)).mono ?_); rintro e w4 ⟨rfl, hb⟩; have HS4 := Lib.hid (HS3.out.call hb); clear hb))
    all_goals (go_wp2; go_ret; exact ⟨rfl, HS4.out.below⟩)
end Go.Proofs.YthkmgjkajllemaaDoor.Spec

/- FixSame, where it is so. -/
namespace Go.Proofs.YthkmgjkajllemaaDoor.Spec
open Go.RowKit Go.Proofs.YthkmgjkajllemaaDoorW.PrintWords Go.Proofs.YthkmgjkajllemaaDoor.Num Go.Proofs.YthkmgjkajllemaaDoor.Str Go.Proofs.YthkmgjkajllemaaDoor.Nats Go.Proofs.YthkmgjkajllemaaDoor.Val Go.Proofs.YthkmgjkajllemaaDoor.Arith Go.Proofs.YthkmgjkajllemaaDoor.NatOps Go.Proofs.YthkmgjkajllemaaDoor.Make
set_option linter.unusedVariables false
set_option linter.unusedSimpArgs false

set_option maxHeartbeats 4000000 in
set_option maxRecDepth 100000 in
/-- FixSame, where the decimal is the number with its places. -/
theorem fixSame_true (neg : Bool) (n s : Nat) (b0 : Nat) (u : Value) (w : World) (hn : n ≤ 9999999999999999999) (hs : s ≤ 19) (hneg : neg = true → 0 < n) (hu : IsNew w b0 u n) (hb0 : b0 ≤ w.heap.size) :
    Calls Tryd.prog 24 #[.agg #[.bool neg, .int .u64 n, .int .i64 s], .agg #[.bool (decide (fz neg n < 0)), u, .int .i64 (-(s : Int))]] w fun e w' => e = .returned (.bool true) ∧ Below w.heap.size w w' := by
  have hn3 := limbs_length 3 n (by omega)
  have hp3 := limbs_length 3 (10 ^ s) (Nat.lt_of_le_of_lt (Nat.pow_le_pow_right (by decide) hs) (by decide))
  have hq6 := limbs_length 6 (n * 10 ^ s) (by
    have h1 : 10 ^ s < 1000000000 ^ 3 := Nat.lt_of_le_of_lt (Nat.pow_le_pow_right (by decide) hs) (by decide)
    have h2 : n * 10 ^ s ≤ n * 1000000000 ^ 3 := Nat.mul_le_mul_left _ (Nat.le_of_lt h1)
    have h3 : n * 1000000000 ^ 3 < 1000000000 ^ 3 * 1000000000 ^ 3 := Nat.mul_lt_mul_of_pos_right (by omega) (by decide)
    rw [← Nat.pow_add] at h3
    omega)
  have HF := Lib.hid (fun W (h1 : IsNew W b0 u n) h2 => decFrac_any (fz neg n) s b0 u W (by rw [fz_abs]; exact h1) h2 (by omega) (by rw [fz_abs]; omega))
  have HH := Lib.hid (fun u' v' W (h1 : IsNat W u' n) h2 => fixHas_true neg n s (fz neg n) (10 ^ s) u' v' W hn hs hneg (by rw [fz_abs]; exact h1) h2 (by rw [fz_abs]; omega) (by omega) rfl (by rw [Int.natAbs_mul, fz_abs]; simp only [Int.natAbs_natCast]; omega))
  rw [fz_abs] at HF
  generalize decide (fz neg n < 0) = x at *
  have HU := Lib.hid (fun (W : World) (hb : Below w.heap.size w W) => hu.below hb)
  have HB0 := Lib.hid hb0
  obtain ⟨A, c, rfl⟩ := hu.slice
  have hw : IntKind.i64.wrap (s : Int) = (s : Int) := IntWalk.i64_in _ (by omega)
  have hnn : -(-(s : Int)) = (s : Int) := by omega
  clear hu hb0 hn3 hp3 hq6 hn hneg
  have HS : Hid (St w ((w.alloc (.cells #[.bool neg, .int .u64 n, .int .i64 s] 32)).alloc (.cells #[.bool x, .slice A (limbs n).length c, .int .i64 (-(s : Int))] 40))
      [(w.heap.size + 1, 0, .bool x), (w.heap.size + 1, 1, .slice A (limbs n).length c), (w.heap.size + 1, 2, .int .i64 (-(s : Int))), (w.heap.size, 0, .bool neg), (w.heap.size, 1, .int .u64 n), (w.heap.size, 2, .int .i64 s)] (w.heap.size + 1) 3) :=
    ⟨Cells.box3 (Cells.box3 (Cells.nil _) rfl _ _ _ _) (by simp) _ _ _ _, fun o _ => free_box (by simp) _ _ _, by simp, ((Below.refl _ _).alloc (Nat.le_refl _) _).alloc (by simp) _⟩
  go_enter Tryd.func24, Tryd.ntmps24
  go_wp2
  obtain ⟨W, hW⟩ : ∃ W, (w.alloc (.cells #[.bool neg, .int .u64 n, .int .i64 s] 32)).alloc (.cells #[.bool x, .slice A (limbs n).length c, .int .i64 (-(s : Int))] 40) = W := ⟨_, rfl⟩
  rw [hW] at HS ⊢
  clear hW
  have HS1 := Lib.hid (HS.out.call (below_drew (Below.refl _ _)))
  clear HS
  go_region_held3 (fun W' => W'.cell? ⟨w.heap.size + 1, 0, none⟩ = some (.bool x) ∧ W'.cell? ⟨w.heap.size + 1, 1, none⟩ = some (.slice A (limbs n).length c) ∧ W'.cell? ⟨w.heap.size + 1, 2, none⟩ = some (.int .i64 (-(s : Int))) ∧ W'.cell? ⟨w.heap.size, 0, none⟩ = some (.bool neg) ∧ W'.cell? ⟨w.heap.size, 1, none⟩ = some (.int .u64 n) ∧ W'.cell? ⟨w.heap.size, 2, none⟩ = some (.int .i64 s))
    (first | exact (by have h := HS3.out.cells; exact ⟨h.1, h.2.1, h.2.2.1, h.2.2.2.1, h.2.2.2.2.1, h.2.2.2.2.2.1⟩) | exact (by have h := HS2.out.cells; exact ⟨h.1, h.2.1, h.2.2.1, h.2.2.2.1, h.2.2.2.2.1, h.2.2.2.2.2.1⟩) | exact (by have h := HS1.out.cells; exact ⟨h.1, h.2.1, h.2.2.1, h.2.2.2.1, h.2.2.2.2.1, h.2.2.2.2.2.1⟩) | go_keep)
    (first | (go_at_call 30; (refine (HF.out _ (HU.out _ HS1.out.below) (Nat.le_trans HB0.out HS1.out.below.size)).mono ?_); rintro e w2 ⟨u', v', rfl, hn, hn', hb⟩; have HS2 := Lib.hid (HS1.out.call hb); have HG2 := Lib.hid hn; have HG2' := Lib.hid hn'; obtain ⟨A3, c3, rfl⟩ := hn.slice; obtain ⟨A4, c4, rfl⟩ := hn'.slice; clear hn hn' hb) | (go_at_call 54; (refine (HH.out _ _ _ HG2.out.isNat HG2'.out.isNat).mono ?_); rintro e w3 ⟨rfl, hb⟩; have HS3 := Lib.hid (HS2.out.call hb); clear hb))
  all_goals (go_wp2; go_ret; exact ⟨rfl, HS3.out.below⟩)
end Go.Proofs.YthkmgjkajllemaaDoor.Spec

/- gvTo: a decimal beside another one that is rounded to a scale. -/
namespace Go.Proofs.YthkmgjkajllemaaDoor.Spec
open Go.RowKit Go.Proofs.YthkmgjkajllemaaDoorW.PrintWords Go.Proofs.YthkmgjkajllemaaDoorW.PrintMore Go.Proofs.YthkmgjkajllemaaDoor.Num Go.Proofs.YthkmgjkajllemaaDoor.Str Go.Proofs.YthkmgjkajllemaaDoor.Nats Go.Proofs.YthkmgjkajllemaaDoor.Val Go.Proofs.YthkmgjkajllemaaDoor.Arith Go.Proofs.YthkmgjkajllemaaDoor.NatOps Go.Proofs.YthkmgjkajllemaaDoor.Make
attribute [local go_sem] max2_int min2_int max_two min_two max_three min_three
set_option linter.unusedVariables false
set_option linter.unusedSimpArgs false

set_option maxHeartbeats 2000000 in
set_option maxRecDepth 100000 in
theorem gvTo_stay_neg (neg : Bool) (n s : Nat) (hn : n ≤ 9999999999999999999) (z : Int) (way : Int) (w : World) (hs : s = 0) (hz0 : z < 0) (hz1 : z ≥ -9223372036854775808) :
    Calls Tryd.prog 28 #[.agg #[.bool neg, .int .u64 n, .int .i64 s], .agg #[.bool (neg && decide (0 < n)), .int .u64 n, .int .i64 s], .int .i64 0, .int .i64 z, .int .i64 way] w fun e w' => e = .returned (.bool true) ∧ Below w.heap.size w w' := by
  have HD := Lib.hid (fun W => fixDec_any neg n s W (by omega) (by omega))
  have HSm := Lib.hid (fun u b0 W h1 h2 => fixSame_true (neg && decide (0 < n)) n s b0 u W hn (by omega) (by simp) h1 h2)
  rw [fz_neg] at HD
  rw [fz_neg, show (neg && decide (0 < n) && decide (0 < n)) = (neg && decide (0 < n)) by cases neg <;> simp] at HSm
  generalize (neg && decide (0 < n)) = nb at *
  subst hs
  rw [show ((0 : Nat) : Int) = 0 from rfl, show -(0 : Int) = 0 from rfl] at HD HSm
  rw [show ((0 : Nat) : Int) = 0 from rfl]
  have HS : Hid (St w ((w.alloc (.cells #[.bool neg, .int .u64 n, .int .i64 0] 32)).alloc (.cells #[.bool nb, .int .u64 n, .int .i64 0] 32))
      [(w.heap.size + 1, 0, .bool nb), (w.heap.size + 1, 1, .int .u64 n), (w.heap.size + 1, 2, .int .i64 0), (w.heap.size, 0, .bool neg), (w.heap.size, 1, .int .u64 n), (w.heap.size, 2, .int .i64 0)] (w.heap.size + 1) 3) :=
    ⟨Cells.box3 (Cells.box3 (Cells.nil _) rfl _ _ _ _) (by simp) _ _ _ _, fun o _ => free_box (by simp) _ _ _, by simp, ((Below.refl _ _).alloc (Nat.le_refl _) _).alloc (by simp) _⟩
  clear hn
  go_enter Tryd.func28, Tryd.ntmps28
  go_wp2_with (first | (go_at_call 65; go_must (refine (HD.out _).mono ?_); rintro e w2 ⟨u, rfl, hn2, hb⟩; have HS2 := Lib.hid (HS.out.call hb); have HL2 := Lib.hid hb.size; obtain ⟨A2, c2, rfl⟩ := hn2.slice; have HO3 := Lib.hid (below_at (Below.refl w2.heap.size w2) (.cells #[.bool nb, .slice A2 (limbs n).length c2, .int .i64 0] 40)); have HS3 := Lib.hid (HS2.out.call HO3.out); have HN3 := Lib.hid (hn2.below HO3.out); obtain ⟨d03, d13, d23, a03, a13, a23, -⟩ := HS3.out.cells; have hne := Nat.ne_of_lt HS2.out.lt; clear hn2 hb) | (go_at_call 24; go_must (refine (HSm.out _ _ _ HN3.out (Nat.le_trans HL2.out HO3.out.size)).mono ?_); rintro e w4 ⟨rfl, hb⟩; have HS4 := Lib.hid (HS3.out.call hb); clear hb))
  go_ret
  exact ⟨rfl, HS4.out.below⟩
set_option maxHeartbeats 2000000 in
set_option maxRecDepth 100000 in
theorem gvTo_stay_nat (neg : Bool) (n s : Nat) (hn : n ≤ 9999999999999999999) (k : Nat) (way : Int) (w : World) (hs : s ≤ 19) (hk : s ≤ k) (hkm : k ≤ 9223372036854775807) :
    Calls Tryd.prog 28 #[.agg #[.bool neg, .int .u64 n, .int .i64 s], .agg #[.bool (neg && decide (0 < n)), .int .u64 n, .int .i64 s], .int .i64 0, .int .i64 (k : Int), .int .i64 way] w fun e w' => e = .returned (.bool true) ∧ Below w.heap.size w w' := by
  have HD := Lib.hid (fun W => fixDec_any neg n s W (by omega) (by omega))
  have HSm := Lib.hid (fun u b0 W h1 h2 => fixSame_true (neg && decide (0 < n)) n s b0 u W hn (by omega) (by simp) h1 h2)
  rw [fz_neg] at HD
  rw [fz_neg, show (neg && decide (0 < n) && decide (0 < n)) = (neg && decide (0 < n)) by cases neg <;> simp] at HSm
  generalize (neg && decide (0 < n)) = nb at *
  have hk0 : ¬ ((k : Int) < 0) := by omega
  have hk1 : decide ((k : Int) < (s : Int)) = false := decide_eq_false (by omega)
  have hk2 : decide (k < s) = false := decide_eq_false (by omega)
  clear hs hk
  have HS : Hid (St w ((w.alloc (.cells #[.bool neg, .int .u64 n, .int .i64 s] 32)).alloc (.cells #[.bool nb, .int .u64 n, .int .i64 s] 32))
      [(w.heap.size + 1, 0, .bool nb), (w.heap.size + 1, 1, .int .u64 n), (w.heap.size + 1, 2, .int .i64 s), (w.heap.size, 0, .bool neg), (w.heap.size, 1, .int .u64 n), (w.heap.size, 2, .int .i64 s)] (w.heap.size + 1) 3) :=
    ⟨Cells.box3 (Cells.box3 (Cells.nil _) rfl _ _ _ _) (by simp) _ _ _ _, fun o _ => free_box (by simp) _ _ _, by simp, ((Below.refl _ _).alloc (Nat.le_refl _) _).alloc (by simp) _⟩
  clear hn
  go_enter Tryd.func28, Tryd.ntmps28
  go_wp2_with (first | (go_at_call 65; go_must (refine (HD.out _).mono ?_); rintro e w2 ⟨u, rfl, hn2, hb⟩; have HS2 := Lib.hid (HS.out.call hb); have HL2 := Lib.hid hb.size; obtain ⟨A2, c2, rfl⟩ := hn2.slice; have HO3 := Lib.hid (below_at (Below.refl w2.heap.size w2) (.cells #[.bool nb, .slice A2 (limbs n).length c2, .int .i64 (-(s : Int))] 40)); have HS3 := Lib.hid (HS2.out.call HO3.out); have HN3 := Lib.hid (hn2.below HO3.out); obtain ⟨d03, d13, d23, a03, a13, a23, -⟩ := HS3.out.cells; have hne := Nat.ne_of_lt HS2.out.lt; clear hn2 hb) | (go_at_call 24; go_must (refine (HSm.out _ _ _ HN3.out (Nat.le_trans HL2.out HO3.out.size)).mono ?_); rintro e w4 ⟨rfl, hb⟩; have HS4 := Lib.hid (HS3.out.call hb); clear hb))
  go_ret
  exact ⟨rfl, HS4.out.below⟩
set_option maxHeartbeats 4000000 in
set_option maxRecDepth 100000 in
theorem gvTo_round_neg (neg : Bool) (n s : Nat) (hn : n ≤ 9999999999999999999) (m : Nat) (z : Int) (way : Int) (w : World) (hs : s ≤ 19) (hz0 : z < 0) (hz1 : z ≥ -9223372036854775808) (ht : 0 < s) (hm : rq way (neg && decide (0 < n)) (n * 10 ^ 0) (10 ^ s) = m) (hml : m ≤ 9999999999999999999) :
    Calls Tryd.prog 28 #[.agg #[.bool neg, .int .u64 n, .int .i64 s], .agg #[.bool (neg && decide (0 < n) && decide (0 < m)), .int .u64 m, .int .i64 0], .int .i64 0, .int .i64 z, .int .i64 way] w fun e w' => e = .returned (.bool true) ∧ Below w.heap.size w w' := by
  have hl3 := limbs_length 3 n (by omega)
  have hp3 := limbs_length 3 (10 ^ s) (Nat.lt_of_le_of_lt (Nat.pow_le_pow_right (by decide) hs) (by decide))
  have HD := Lib.hid (fun W => fixDec_any neg n s W (by omega) (by omega))
  have HN := Lib.hid (fun W => fixNum_any neg n s W (by omega) (by omega))
  have HR := Lib.hid (fun u v W h1 h2 => round_any (neg && decide (0 < n)) n (10 ^ s) 0 way u v W h1 h2 (Nat.pow_pos (by decide)) (by omega) (by omega) (by omega))
  have HSm := Lib.hid (fun u b0 W h1 h2 => fixSame_true (neg && decide (0 < n) && decide (0 < m)) m 0 b0 u W hml (by omega) (by simp) h1 h2)
  rw [fz_neg] at HD HN
  rw [hm] at HR
  rw [fz_neg, show (neg && decide (0 < n) && decide (0 < m) && decide (0 < m)) = (neg && decide (0 < n) && decide (0 < m)) by cases decide (0 < m) <;> simp] at HSm
  generalize (neg && decide (0 < n) && decide (0 < m)) = mb at *
  generalize (neg && decide (0 < n)) = nb at *
  rw [show ((0 : Nat) : Int) = 0 from rfl, show -(0 : Int) = 0 from rfl] at HR HSm
  have hk1 : decide ((0 : Int) < (s : Int)) = true := decide_eq_true (by omega)
  have hk2 : decide (0 < s) = true := decide_eq_true ht
  have HS : Hid (St w ((w.alloc (.cells #[.bool neg, .int .u64 n, .int .i64 s] 32)).alloc (.cells #[.bool mb, .int .u64 m, .int .i64 0] 32))
      [(w.heap.size + 1, 0, .bool mb), (w.heap.size + 1, 1, .int .u64 m), (w.heap.size + 1, 2, .int .i64 0), (w.heap.size, 0, .bool neg), (w.heap.size, 1, .int .u64 n), (w.heap.size, 2, .int .i64 s)] (w.heap.size + 1) 3) :=
    ⟨Cells.box3 (Cells.box3 (Cells.nil _) rfl _ _ _ _) (by simp) _ _ _ _, fun o _ => free_box (by simp) _ _ _, by simp, ((Below.refl _ _).alloc (Nat.le_refl _) _).alloc (by simp) _⟩
  clear hn hm hml hs ht hl3 hp3
  go_enter Tryd.func28, Tryd.ntmps28
  go_wp2_with (first | (go_at_call 65; go_must (refine (HD.out _).mono ?_); rintro e w2 ⟨u, rfl, hn2, hb⟩; have HS2 := Lib.hid (HS.out.call hb); obtain ⟨A2, c2, rfl⟩ := hn2.slice; have HO3 := Lib.hid (below_at (Below.refl w2.heap.size w2) (.cells #[.bool nb, .slice A2 (limbs n).length c2, .int .i64 (-(s : Int))] 40)); have HS3 := Lib.hid (HS2.out.call HO3.out); have HW3 : Hid (St w (w2.alloc (.cells #[.bool nb, .slice A2 (limbs n).length c2, .int .i64 (-(s : Int))] 40)) [(w2.heap.size, 0, .bool nb), (w2.heap.size, 1, .slice A2 (limbs n).length c2), (w2.heap.size, 2, .int .i64 (-(s : Int)))] w2.heap.size 3) := Lib.hid ⟨Cells.box3 (Cells.nil _) rfl _ _ _ _, fun o _ => free_box rfl _ _ _, by simp, HS3.out.below⟩; obtain ⟨d03, d13, d23, a03, a13, a23, -⟩ := HS3.out.cells; have hne1 := Nat.ne_of_lt HS2.out.lt; have hne2 := Nat.ne_of_gt HS2.out.lt; clear hn2 hb) | (go_at_call 66; go_must (refine (HN.out _).mono ?_); rintro e w4 ⟨u4, v4, rfl, hu4, hv4, hb⟩; have HS4 := Lib.hid (HS3.out.call hb); have HW4 := Lib.hid (HW3.out.call hb); have HU4 := Lib.hid hu4.isNat; have HV4 := Lib.hid hv4.isNat; clear hu4 hv4 hb) | (go_at_call 26; go_must (refine (HR.out _ _ _ HU4.out HV4.out).mono ?_); rintro e w5 ⟨r, rfl, hn5, hb⟩; have HS5 := Lib.hid (HS4.out.call hb); have HW5 := Lib.hid (HW4.out.call hb); have HN5 := Lib.hid hn5; have HLE := Lib.hid HS2.out.below.size; have HL5 := Lib.hid hb.size; obtain ⟨A5, c5, rfl⟩ := hn5.slice; obtain ⟨d05, d15, d25, a05, a15, a25, -⟩ := HS5.out.cells; obtain ⟨b05, b15, b25, -⟩ := HW5.out.cells; have f0 := HW5.out.free 0 (by omega); have f1 := HW5.out.free 1 (by omega); have f2 := HW5.out.free 2 (by omega); have HZ5 := Lib.hid HW5.out.lt; have hz := HW5.out.lt; clear hn5 hb) | (go_at_call 24; go_must (refine (HSm.out _ _ _ (((HN5.out.set (p := ⟨w2.heap.size, 0, none⟩) HW4.out.lt _).set (p := ⟨w2.heap.size, 1, none⟩) HW4.out.lt _).set (p := ⟨w2.heap.size, 2, none⟩) HW4.out.lt _) (by simpa using HL5.out)).mono ?_); rintro e w6 ⟨rfl, hb⟩; have HB6 := Lib.hid (below_by (((HS5.out.below.setCell (p := ⟨w2.heap.size, 0, none⟩) HLE.out _).setCell (p := ⟨w2.heap.size, 1, none⟩) HLE.out _).setCell (p := ⟨w2.heap.size, 2, none⟩) HLE.out _) hb); clear hb))
  go_ret
  exact ⟨rfl, HB6.out⟩
set_option maxHeartbeats 4000000 in
set_option maxRecDepth 100000 in
theorem gvTo_round_nat (neg : Bool) (n s : Nat) (hn : n ≤ 9999999999999999999) (m t : Nat) (way : Int) (w : World) (hs : s ≤ 19) (ht : t < s) (hm : rq way (neg && decide (0 < n)) (n * 10 ^ t) (10 ^ s) = m) (hml : m ≤ 9999999999999999999) :
    Calls Tryd.prog 28 #[.agg #[.bool neg, .int .u64 n, .int .i64 s], .agg #[.bool (neg && decide (0 < n) && decide (0 < m)), .int .u64 m, .int .i64 t], .int .i64 0, .int .i64 (t : Int), .int .i64 way] w fun e w' => e = .returned (.bool true) ∧ Below w.heap.size w w' := by
  have hl3 := limbs_length 3 n (by omega)
  have hp3 := limbs_length 3 (10 ^ s) (Nat.lt_of_le_of_lt (Nat.pow_le_pow_right (by decide) hs) (by decide))
  have HD := Lib.hid (fun W => fixDec_any neg n s W (by omega) (by omega))
  have HN := Lib.hid (fun W => fixNum_any neg n s W (by omega) (by omega))
  have HR := Lib.hid (fun u v W h1 h2 => round_any (neg && decide (0 < n)) n (10 ^ s) t way u v W h1 h2 (Nat.pow_pos (by decide)) (by omega) (by omega) (by omega))
  have HSm := Lib.hid (fun u b0 W h1 h2 => fixSame_true (neg && decide (0 < n) && decide (0 < m)) m t b0 u W hml (by omega) (by simp) h1 h2)
  rw [fz_neg] at HD HN
  rw [hm] at HR
  rw [fz_neg, show (neg && decide (0 < n) && decide (0 < m) && decide (0 < m)) = (neg && decide (0 < n) && decide (0 < m)) by cases decide (0 < m) <;> simp] at HSm
  generalize (neg && decide (0 < n) && decide (0 < m)) = mb at *
  generalize (neg && decide (0 < n)) = nb at *
  have hk0 : ¬ ((t : Int) < 0) := by omega
  have hk1 : decide ((t : Int) < (s : Int)) = true := decide_eq_true (by omega)
  have hk2 : decide (t < s) = true := decide_eq_true ht
  have hkm : t ≤ 19 := by omega
  have HS : Hid (St w ((w.alloc (.cells #[.bool neg, .int .u64 n, .int .i64 s] 32)).alloc (.cells #[.bool mb, .int .u64 m, .int .i64 t] 32))
      [(w.heap.size + 1, 0, .bool mb), (w.heap.size + 1, 1, .int .u64 m), (w.heap.size + 1, 2, .int .i64 t), (w.heap.size, 0, .bool neg), (w.heap.size, 1, .int .u64 n), (w.heap.size, 2, .int .i64 s)] (w.heap.size + 1) 3) :=
    ⟨Cells.box3 (Cells.box3 (Cells.nil _) rfl _ _ _ _) (by simp) _ _ _ _, fun o _ => free_box (by simp) _ _ _, by simp, ((Below.refl _ _).alloc (Nat.le_refl _) _).alloc (by simp) _⟩
  clear hn hm hml hs ht hl3 hp3
  go_enter Tryd.func28, Tryd.ntmps28
  go_wp2_with (first | (go_at_call 65; go_must (refine (HD.out _).mono ?_); rintro e w2 ⟨u, rfl, hn2, hb⟩; have HS2 := Lib.hid (HS.out.call hb); obtain ⟨A2, c2, rfl⟩ := hn2.slice; have HO3 := Lib.hid (below_at (Below.refl w2.heap.size w2) (.cells #[.bool nb, .slice A2 (limbs n).length c2, .int .i64 (-(s : Int))] 40)); have HS3 := Lib.hid (HS2.out.call HO3.out); have HW3 : Hid (St w (w2.alloc (.cells #[.bool nb, .slice A2 (limbs n).length c2, .int .i64 (-(s : Int))] 40)) [(w2.heap.size, 0, .bool nb), (w2.heap.size, 1, .slice A2 (limbs n).length c2), (w2.heap.size, 2, .int .i64 (-(s : Int)))] w2.heap.size 3) := Lib.hid ⟨Cells.box3 (Cells.nil _) rfl _ _ _ _, fun o _ => free_box rfl _ _ _, by simp, HS3.out.below⟩; obtain ⟨d03, d13, d23, a03, a13, a23, -⟩ := HS3.out.cells; have hne1 := Nat.ne_of_lt HS2.out.lt; have hne2 := Nat.ne_of_gt HS2.out.lt; clear hn2 hb) | (go_at_call 66; go_must (refine (HN.out _).mono ?_); rintro e w4 ⟨u4, v4, rfl, hu4, hv4, hb⟩; have HS4 := Lib.hid (HS3.out.call hb); have HW4 := Lib.hid (HW3.out.call hb); have HU4 := Lib.hid hu4.isNat; have HV4 := Lib.hid hv4.isNat; clear hu4 hv4 hb) | (go_at_call 26; go_must (refine (HR.out _ _ _ HU4.out HV4.out).mono ?_); rintro e w5 ⟨r, rfl, hn5, hb⟩; have HS5 := Lib.hid (HS4.out.call hb); have HW5 := Lib.hid (HW4.out.call hb); have HN5 := Lib.hid hn5; have HLE := Lib.hid HS2.out.below.size; have HL5 := Lib.hid hb.size; obtain ⟨A5, c5, rfl⟩ := hn5.slice; obtain ⟨d05, d15, d25, a05, a15, a25, -⟩ := HS5.out.cells; obtain ⟨b05, b15, b25, -⟩ := HW5.out.cells; have f0 := HW5.out.free 0 (by omega); have f1 := HW5.out.free 1 (by omega); have f2 := HW5.out.free 2 (by omega); have HZ5 := Lib.hid HW5.out.lt; have hz := HW5.out.lt; clear hn5 hb) | (go_at_call 24; go_must (refine (HSm.out _ _ _ (((HN5.out.set (p := ⟨w2.heap.size, 0, none⟩) HW4.out.lt _).set (p := ⟨w2.heap.size, 1, none⟩) HW4.out.lt _).set (p := ⟨w2.heap.size, 2, none⟩) HW4.out.lt _) (by simpa using HL5.out)).mono ?_); rintro e w6 ⟨rfl, hb⟩; have HB6 := Lib.hid (below_by (((HS5.out.below.setCell (p := ⟨w2.heap.size, 0, none⟩) HLE.out _).setCell (p := ⟨w2.heap.size, 1, none⟩) HLE.out _).setCell (p := ⟨w2.heap.size, 2, none⟩) HLE.out _) hb); clear hb))
  go_ret
  exact ⟨rfl, HB6.out⟩
end Go.Proofs.YthkmgjkajllemaaDoor.Spec

/- Parts that make no decimal of govalues are told to be none. -/
namespace Go.Proofs.YthkmgjkajllemaaDoor.Spec
open Go.RowKit Go.Proofs.YthkmgjkajllemaaDoorW.PrintWords Go.Proofs.YthkmgjkajllemaaDoor.Make
set_option linter.unusedVariables false
set_option linter.unusedSimpArgs false

theorem newSafe_bad (neg : Bool) (n : Nat) (z : Int) (w : World) (h : 9999999999999999999 < n ∨ z < 0 ∨ 19 < z) (he : ErrAt w) :
    Calls Tryd.prog 80 #[.bool neg, .int .u64 n, .int .i64 z] w fun e w' => (∃ t v, e = .returned (.tuple #[.agg #[.bool false, .int .i8 0, .int .u64 0], .iface t v])) ∧ Below w.heap.size w w' := by
  by_cases hz : z < 0 ∨ 19 < z
  · exact newSafe_range neg n z w hz he
  · obtain ⟨s, rfl⟩ := Int.eq_ofNat_of_zero_le (show 0 ≤ z by omega)
    exact newSafe_over neg n s w (by omega) (by omega) he
theorem zzMake_bad (neg : Bool) (n : Nat) (z : Int) (w : World) (h : 9999999999999999999 < n ∨ z < 0 ∨ 19 < z) (he : ErrAt w) :
    Calls Tryd.prog 84 #[.bool neg, .int .u64 n, .int .i64 z] w fun e w' => (∃ t v, e = .returned (.tuple #[.agg #[.bool false, .int .i8 0, .int .u64 0], .iface t v])) ∧ Below w.heap.size w w' := by
  have HM := Lib.hid (fun W hW => newSafe_bad neg n z W h hW)
  have HE := Lib.hid (fun (W : World) (hb : Below w.heap.size w W) => he.below hb)
  have HS : Hid (St w (w.alloc (.cells #[.bool false, .int .i8 0, .int .u64 0] 74))
      [(w.heap.size, 0, .bool false), (w.heap.size, 1, .int .i8 0), (w.heap.size, 2, .int .u64 0)] w.heap.size 3) :=
    ⟨Cells.box3 (Cells.nil _) rfl _ _ _ _, fun o _ => free_box rfl _ _ _, by simp, (Below.refl _ _).alloc (Nat.le_refl _) _⟩
  clear h he
  go_enter Tryd.func84, Tryd.ntmps84
  go_wp2_with (first | (go_at_call 80; go_must (refine (HM.out _ (HE.out _ HS.out.below)).mono ?_); rintro e w2 ⟨⟨t, v, rfl⟩, hb⟩; have HS2 := Lib.hid (HS.out.call hb); obtain ⟨d0, d1, d2, -⟩ := HS2.out.cells; have f0 := HS2.out.free 0 (by omega); have f1 := HS2.out.free 1 (by omega); have f2 := HS2.out.free 2 (by omega); have hz := HS2.out.lt; clear hb))
  exact bodyPost_ret (v := .tuple #[.agg #[.bool false, .int .i8 0, .int .u64 0], .iface t v]) (by simp [results, Tryd.results84, go_sem, d0, d1, d2, f0, f1, f2, hz]) rfl ⟨⟨t, v, rfl⟩, ((HS2.out.below.setCell (p := ⟨w.heap.size, 0, none⟩) (Nat.le_refl _) _).setCell (p := ⟨w.heap.size, 1, none⟩) (Nat.le_refl _) _).setCell (p := ⟨w.heap.size, 2, none⟩) (Nat.le_refl _) _⟩

set_option maxHeartbeats 1000000 in
theorem fixed_bad (neg : Bool) (n : Nat) (z : Int) (w : World) (h : 9999999999999999999 < n ∨ z < 0 ∨ 19 < z) (he : ErrAt w) :
    Calls Tryd.prog 48 #[.agg #[.bool neg, .int .u64 n, .int .i64 z]] w fun e w' => e = .returned (.tuple #[.agg #[.bool false, .int .i8 0, .int .u64 0], .bool false]) ∧ Below w.heap.size w w' := by
  have HM := Lib.hid (fun W hW => zzMake_bad neg n z W h hW)
  have HE := Lib.hid (fun (W : World) (hb : Below w.heap.size w W) => he.below hb)
  have HS : Hid (St w ((w.alloc (.cells #[.bool neg, .int .u64 n, .int .i64 z] 32)).alloc (.cells #[.bool false, .int .i8 0, .int .u64 0] 74))
      [(w.heap.size + 1, 0, .bool false), (w.heap.size + 1, 1, .int .i8 0), (w.heap.size + 1, 2, .int .u64 0), (w.heap.size, 0, .bool neg), (w.heap.size, 1, .int .u64 n), (w.heap.size, 2, .int .i64 z)] (w.heap.size + 1) 3) :=
    ⟨Cells.box3 (Cells.box3 (Cells.nil _) rfl _ _ _ _) (by simp) _ _ _ _, fun o _ => free_box (by simp) _ _ _, by simp, ((Below.refl _ _).alloc (Nat.le_refl _) _).alloc (by simp) _⟩
  clear h he
  go_enter Tryd.func48, Tryd.ntmps48
  go_wp2_with (first | (go_at_call 84; go_must (refine (HM.out _ (HE.out _ HS.out.below)).mono ?_); rintro e w2 ⟨⟨t, v, rfl⟩, hb⟩; have HS2 := Lib.hid (HS.out.call hb); have HL := Lib.hid HS2.out.lt; clear hb))
  have hne : w.heap.size + 1 ≠ w2.heap.size := by have := HL.out; omega
  obtain ⟨W, hW⟩ : ∃ W, w2.alloc (.cells #[.bool false, .int .i8 0, .int .u64 0] 74) = W := ⟨_, rfl⟩
  have HS3 := Lib.hid (HS2.out.call ((Below.refl _ _).alloc (Nat.le_refl _) (.cells #[.bool false, .int .i8 0, .int .u64 0] 74)))
  have HC3 : Hid (Cells (w2.alloc (.cells #[.bool false, .int .i8 0, .int .u64 0] 74)) [(w2.heap.size, 0, .bool false), (w2.heap.size, 1, .int .i8 0), (w2.heap.size, 2, .int .u64 0)]) := Cells.box3 (Cells.nil _) rfl _ _ _ _
  rw [hW] at HS3 HC3 ⊢
  clear hW
  obtain ⟨d0, d1, d2, -⟩ := HS3.out.cells
  have f0 := HS3.out.free 0 (by omega)
  have f1 := HS3.out.free 1 (by omega)
  have f2 := HS3.out.free 2 (by omega)
  have hz := HS3.out.lt
  obtain ⟨k0, k1, k2, -⟩ := HC3.out
  go_region_held3 (fun W' => W'.cell? ⟨w2.heap.size, 0, none⟩ = some (.bool false) ∧ W'.cell? ⟨w2.heap.size, 1, none⟩ = some (.int .i8 0) ∧ W'.cell? ⟨w2.heap.size, 2, none⟩ = some (.int .u64 0)) (go_keep) (fail)
  all_goals (go_wp2; exact bodyPost_ret (v := .tuple #[.agg #[.bool false, .int .i8 0, .int .u64 0], .bool false]) (by simp [results, Tryd.results48, go_sem, d0, d1, d2, f0, f1, f2, hz]) rfl ⟨rfl, (((below_drew HS3.out.below).setCell (p := ⟨w.heap.size + 1, 0, none⟩) (Nat.le_succ _) _).setCell (p := ⟨w.heap.size + 1, 1, none⟩) (Nat.le_succ _) _).setCell (p := ⟨w.heap.size + 1, 2, none⟩) (Nat.le_succ _) _⟩)
end Go.Proofs.YthkmgjkajllemaaDoor.Spec

/- FixCeil and FixRescale: the doors to govalues' functions of a decimal and a scale. -/
namespace Go.Proofs.YthkmgjkajllemaaDoor.Spec
open Go.RowKit Go.Proofs.YthkmgjkajllemaaDoorW.PrintWords Go.Proofs.YthkmgjkajllemaaDoor.Make
set_option linter.unusedVariables false
set_option linter.unusedSimpArgs false

set_option maxHeartbeats 1000000 in
theorem fixCeil_ok (neg : Bool) (n s : Nat) (z : Int) (nb : Bool) (m t : Nat) (w : World) (hs : s ≤ 19) (hn : n ≤ 9999999999999999999) (ht : t ≤ 19)
    (hc : ∀ W, Below w.heap.size w W → Calls Tryd.prog 64 #[.agg #[.bool (neg && decide (0 < n)), .int .i8 s, .int .u64 n], .int .i64 z] W fun e w' => e = .returned (.agg #[.bool nb, .int .i8 t, .int .u64 m]) ∧ Below W.heap.size W w') :
    Calls Tryd.prog 27 #[.agg #[.bool neg, .int .u64 n, .int .i64 s], .int .i64 z] w fun e w' => e = .returned (.tuple #[.agg #[.bool nb, .int .u64 m, .int .i64 t], .int .i64 0]) ∧ Below w.heap.size w w' := by
  have hmf : ∀ (fn : Fn) (first cap : Array Value) (w : World), (Instr.makeFunc fn first cap).run Tryd.prog w = .ok (.func fn first cap) w := fun _ _ _ _ => rfl
  have HX := Lib.hid (fun W => fixed_ok neg n s W hs hn)
  have HZ := Lib.hid hc
  generalize (neg && decide (0 < n)) = b at HX HZ
  have HF := Lib.hid (fun W => fix_any nb t m W ht)
  have HS : Hid (St w (((w.alloc (.cells #[.bool neg, .int .u64 n, .int .i64 s] 32)).alloc (.cells #[.bool false, .int .u64 0, .int .i64 0] 32)).alloc (.cells #[.int .i64 0] 3))
      [(w.heap.size + 1, 0, .bool false), (w.heap.size + 1, 1, .int .u64 0), (w.heap.size + 1, 2, .int .i64 0)] (w.heap.size + 1) 3) :=
    St.call ⟨Cells.box3 (Cells.nil _) (by simp) _ _ _ _, fun o _ => free_box (by simp) _ _ _, by simp, ((Below.refl _ _).alloc (Nat.le_refl _) _).alloc (by simp) _⟩ ((Below.refl _ _).alloc (Nat.le_refl _) _)
  have HT : Hid (St w (((w.alloc (.cells #[.bool neg, .int .u64 n, .int .i64 s] 32)).alloc (.cells #[.bool false, .int .u64 0, .int .i64 0] 32)).alloc (.cells #[.int .i64 0] 3))
      [(w.heap.size + 1 + 1, 0, .int .i64 0)] (w.heap.size + 1 + 1) 1) :=
    ⟨Cells.box1 (Cells.nil _) (by simp) _ _, fun o _ => free_box (by simp) _ _ _, by simp, (((Below.refl _ _).alloc (Nat.le_refl _) _).alloc (by simp) _).alloc (by simp; omega) _⟩
  clear hs hn hc ht
  go_enter_defers Tryd.func27, Tryd.ntmps27
  go_wp2_with (first | (go_at_call 48; go_must (refine (HX.out _).mono ?_); rintro e w2 ⟨rfl, hb⟩; have HS2 := Lib.hid (HS.out.call hb); have HT2 := Lib.hid (HT.out.call hb); have HL2 := Lib.hid HS2.out.lt; have HL2' := Lib.hid HT2.out.lt; clear hb) | (go_at_call 64; go_must (refine (HZ.out _ (below_at HS2.out.below _)).mono ?_); rintro e w3 ⟨rfl, hb⟩; have hb1 := below_one _ hb; have HS3 := Lib.hid (HS2.out.call hb1); have HT3 := Lib.hid (HT2.out.call hb1); clear hb hb1) | (go_at_call 45; go_must (refine (HF.out _).mono ?_); rintro e w4 ⟨rfl, hb⟩; have HS4 := Lib.hid (HS3.out.call hb); have HT4 := Lib.hid (HT3.out.call hb); obtain ⟨d0, d1, d2, -⟩ := HS4.out.cells; obtain ⟨d3, -⟩ := HT4.out.cells; have f0 := HS4.out.free 0 (by omega); have f1 := HS4.out.free 1 (by omega); have f2 := HS4.out.free 2 (by omega); have f3 := HT4.out.free 0 (by omega); clear hb))
  refine leaves_cons (f := 63) (args := #[.pointer (some ⟨w.heap.size + 1, 0, none⟩), .pointer (some ⟨w.heap.size + 1 + 1, 0, none⟩)]) (by simp) (by simp [go_sem]) ?_
  refine (idle63 _ _ _).mono ?_
  rintro e u' w'' ⟨rfl, rfl, rfl⟩
  have HE := (((HS4.out.below.setCell (p := ⟨w.heap.size + 1, 0, none⟩) (Nat.le_succ _) (.bool nb)).setCell (p := ⟨w.heap.size + 1, 1, none⟩) (Nat.le_succ _) (.int .u64 m)).setCell (p := ⟨w.heap.size + 1, 2, none⟩) (Nat.le_succ _) (.int .i64 t)).setCell (p := ⟨w.heap.size + 1 + 1, 0, none⟩) (by show w.heap.size ≤ w.heap.size + 1 + 1; omega) (.int .i64 0)
  have hz := HS4.out.lt
  have hz1 := HT4.out.lt
  have hne : w.heap.size + 1 ≠ w.heap.size + 1 + 1 := by omega
  simp [Leaves, settle, results, Tryd.results27, go_sem, d0, d1, d2, d3, f0, f1, f2, f3]
  exact HE
set_option maxHeartbeats 1000000 in
theorem fixCeil_bad (neg : Bool) (n : Nat) (y z : Int) (w : World) (h : 9999999999999999999 < n ∨ y < 0 ∨ 19 < y) (he : ErrAt w) :
    Calls Tryd.prog 27 #[.agg #[.bool neg, .int .u64 n, .int .i64 y], .int .i64 z] w fun e w' => e = .returned (.tuple #[.agg #[.bool false, .int .u64 0, .int .i64 0], .int .i64 3]) ∧ Below w.heap.size w w' := by
  have hmf : ∀ (fn : Fn) (first cap : Array Value) (w : World), (Instr.makeFunc fn first cap).run Tryd.prog w = .ok (.func fn first cap) w := fun _ _ _ _ => rfl
  have HX := Lib.hid (fun W hW => fixed_bad neg n y W h hW)
  have HEr := Lib.hid (fun (W : World) (hb : Below w.heap.size w W) => he.below hb)
  have HS : Hid (St w (((w.alloc (.cells #[.bool neg, .int .u64 n, .int .i64 y] 32)).alloc (.cells #[.bool false, .int .u64 0, .int .i64 0] 32)).alloc (.cells #[.int .i64 0] 3))
      [(w.heap.size + 1, 0, .bool false), (w.heap.size + 1, 1, .int .u64 0), (w.heap.size + 1, 2, .int .i64 0)] (w.heap.size + 1) 3) :=
    St.call ⟨Cells.box3 (Cells.nil _) (by simp) _ _ _ _, fun o _ => free_box (by simp) _ _ _, by simp, ((Below.refl _ _).alloc (Nat.le_refl _) _).alloc (by simp) _⟩ ((Below.refl _ _).alloc (Nat.le_refl _) _)
  have HT : Hid (St w (((w.alloc (.cells #[.bool neg, .int .u64 n, .int .i64 y] 32)).alloc (.cells #[.bool false, .int .u64 0, .int .i64 0] 32)).alloc (.cells #[.int .i64 0] 3))
      [(w.heap.size + 1 + 1, 0, .int .i64 0)] (w.heap.size + 1 + 1) 1) :=
    ⟨Cells.box1 (Cells.nil _) (by simp) _ _, fun o _ => free_box (by simp) _ _ _, by simp, (((Below.refl _ _).alloc (Nat.le_refl _) _).alloc (by simp) _).alloc (by simp; omega) _⟩
  clear h he
  go_enter_defers Tryd.func27, Tryd.ntmps27
  go_wp2_with (first | (go_at_call 48; go_must (refine (HX.out _ (HEr.out _ HS.out.below)).mono ?_); rintro e w2 ⟨rfl, hb⟩; have HS2 := Lib.hid (HS.out.call hb); have HT2 := Lib.hid (HT.out.call hb); have HL2 := Lib.hid HS2.out.lt; have HL2' := Lib.hid HT2.out.lt; have HO := Lib.hid (below_at (Below.refl w2.heap.size w2) (.cells #[.bool false, .int .i8 0, .int .u64 0] 74)); have HS4 := Lib.hid (HS2.out.call HO.out); have HT4 := Lib.hid (HT2.out.call HO.out); obtain ⟨d0, d1, d2, -⟩ := HS4.out.cells; obtain ⟨d3, -⟩ := HT4.out.cells; have f0 := HS4.out.free 0 (by omega); have f1 := HS4.out.free 1 (by omega); have f2 := HS4.out.free 2 (by omega); have f3 := HT4.out.free 0 (by omega); clear hb))
  refine leaves_cons (f := 63) (args := #[.pointer (some ⟨w.heap.size + 1, 0, none⟩), .pointer (some ⟨w.heap.size + 1 + 1, 0, none⟩)]) (by simp) (by simp [go_sem]) ?_
  refine (idle63 _ _ _).mono ?_
  rintro e u' w'' ⟨rfl, rfl, rfl⟩
  have HE := (((HS4.out.below.setCell (p := ⟨w.heap.size + 1, 0, none⟩) (Nat.le_succ _) (.bool false)).setCell (p := ⟨w.heap.size + 1, 1, none⟩) (Nat.le_succ _) (.int .u64 0)).setCell (p := ⟨w.heap.size + 1, 2, none⟩) (Nat.le_succ _) (.int .i64 0)).setCell (p := ⟨w.heap.size + 1 + 1, 0, none⟩) (by show w.heap.size ≤ w.heap.size + 1 + 1; omega) (.int .i64 3)
  have hz := HS4.out.lt
  have hz1 := HT4.out.lt
  have hne : w.heap.size + 1 ≠ w.heap.size + 1 + 1 := by omega
  simp [Leaves, settle, results, Tryd.results27, go_sem, d0, d1, d2, d3, f0, f1, f2, f3]
  exact HE
set_option maxHeartbeats 1000000 in
theorem fixRescale_ok (neg : Bool) (n s : Nat) (z : Int) (nb : Bool) (m t : Nat) (w : World) (hs : s ≤ 19) (hn : n ≤ 9999999999999999999) (ht : t ≤ 19)
    (hc : ∀ W, Below w.heap.size w W → Calls Tryd.prog 72 #[.agg #[.bool (neg && decide (0 < n)), .int .i8 s, .int .u64 n], .int .i64 z] W fun e w' => e = .returned (.agg #[.bool nb, .int .i8 t, .int .u64 m]) ∧ Below W.heap.size W w') :
    Calls Tryd.prog 37 #[.agg #[.bool neg, .int .u64 n, .int .i64 s], .int .i64 z] w fun e w' => e = .returned (.tuple #[.agg #[.bool nb, .int .u64 m, .int .i64 t], .int .i64 0]) ∧ Below w.heap.size w w' := by
  have hmf : ∀ (fn : Fn) (first cap : Array Value) (w : World), (Instr.makeFunc fn first cap).run Tryd.prog w = .ok (.func fn first cap) w := fun _ _ _ _ => rfl
  have HX := Lib.hid (fun W => fixed_ok neg n s W hs hn)
  have HZ := Lib.hid hc
  generalize (neg && decide (0 < n)) = b at HX HZ
  have HF := Lib.hid (fun W => fix_any nb t m W ht)
  have HS : Hid (St w (((w.alloc (.cells #[.bool neg, .int .u64 n, .int .i64 s] 32)).alloc (.cells #[.bool false, .int .u64 0, .int .i64 0] 32)).alloc (.cells #[.int .i64 0] 3))
      [(w.heap.size + 1, 0, .bool false), (w.heap.size + 1, 1, .int .u64 0), (w.heap.size + 1, 2, .int .i64 0)] (w.heap.size + 1) 3) :=
    St.call ⟨Cells.box3 (Cells.nil _) (by simp) _ _ _ _, fun o _ => free_box (by simp) _ _ _, by simp, ((Below.refl _ _).alloc (Nat.le_refl _) _).alloc (by simp) _⟩ ((Below.refl _ _).alloc (Nat.le_refl _) _)
  have HT : Hid (St w (((w.alloc (.cells #[.bool neg, .int .u64 n, .int .i64 s] 32)).alloc (.cells #[.bool false, .int .u64 0, .int .i64 0] 32)).alloc (.cells #[.int .i64 0] 3))
      [(w.heap.size + 1 + 1, 0, .int .i64 0)] (w.heap.size + 1 + 1) 1) :=
    ⟨Cells.box1 (Cells.nil _) (by simp) _ _, fun o _ => free_box (by simp) _ _ _, by simp, (((Below.refl _ _).alloc (Nat.le_refl _) _).alloc (by simp) _).alloc (by simp; omega) _⟩
  clear hs hn hc ht
  go_enter_defers Tryd.func37, Tryd.ntmps37
  go_wp2_with (first | (go_at_call 48; go_must (refine (HX.out _).mono ?_); rintro e w2 ⟨rfl, hb⟩; have HS2 := Lib.hid (HS.out.call hb); have HT2 := Lib.hid (HT.out.call hb); have HL2 := Lib.hid HS2.out.lt; have HL2' := Lib.hid HT2.out.lt; clear hb) | (go_at_call 72; go_must (refine (HZ.out _ (below_at HS2.out.below _)).mono ?_); rintro e w3 ⟨rfl, hb⟩; have hb1 := below_one _ hb; have HS3 := Lib.hid (HS2.out.call hb1); have HT3 := Lib.hid (HT2.out.call hb1); clear hb hb1) | (go_at_call 45; go_must (refine (HF.out _).mono ?_); rintro e w4 ⟨rfl, hb⟩; have HS4 := Lib.hid (HS3.out.call hb); have HT4 := Lib.hid (HT3.out.call hb); obtain ⟨d0, d1, d2, -⟩ := HS4.out.cells; obtain ⟨d3, -⟩ := HT4.out.cells; have f0 := HS4.out.free 0 (by omega); have f1 := HS4.out.free 1 (by omega); have f2 := HS4.out.free 2 (by omega); have f3 := HT4.out.free 0 (by omega); clear hb))
  refine leaves_cons (f := 71) (args := #[.pointer (some ⟨w.heap.size + 1, 0, none⟩), .pointer (some ⟨w.heap.size + 1 + 1, 0, none⟩)]) (by simp) (by simp [go_sem]) ?_
  refine (idle71 _ _ _).mono ?_
  rintro e u' w'' ⟨rfl, rfl, rfl⟩
  have HE := (((HS4.out.below.setCell (p := ⟨w.heap.size + 1, 0, none⟩) (Nat.le_succ _) (.bool nb)).setCell (p := ⟨w.heap.size + 1, 1, none⟩) (Nat.le_succ _) (.int .u64 m)).setCell (p := ⟨w.heap.size + 1, 2, none⟩) (Nat.le_succ _) (.int .i64 t)).setCell (p := ⟨w.heap.size + 1 + 1, 0, none⟩) (by show w.heap.size ≤ w.heap.size + 1 + 1; omega) (.int .i64 0)
  have hz := HS4.out.lt
  have hz1 := HT4.out.lt
  have hne : w.heap.size + 1 ≠ w.heap.size + 1 + 1 := by omega
  simp [Leaves, settle, results, Tryd.results37, go_sem, d0, d1, d2, d3, f0, f1, f2, f3]
  exact HE
set_option maxHeartbeats 1000000 in
theorem fixRescale_bad (neg : Bool) (n : Nat) (y z : Int) (w : World) (h : 9999999999999999999 < n ∨ y < 0 ∨ 19 < y) (he : ErrAt w) :
    Calls Tryd.prog 37 #[.agg #[.bool neg, .int .u64 n, .int .i64 y], .int .i64 z] w fun e w' => e = .returned (.tuple #[.agg #[.bool false, .int .u64 0, .int .i64 0], .int .i64 3]) ∧ Below w.heap.size w w' := by
  have hmf : ∀ (fn : Fn) (first cap : Array Value) (w : World), (Instr.makeFunc fn first cap).run Tryd.prog w = .ok (.func fn first cap) w := fun _ _ _ _ => rfl
  have HX := Lib.hid (fun W hW => fixed_bad neg n y W h hW)
  have HEr := Lib.hid (fun (W : World) (hb : Below w.heap.size w W) => he.below hb)
  have HS : Hid (St w (((w.alloc (.cells #[.bool neg, .int .u64 n, .int .i64 y] 32)).alloc (.cells #[.bool false, .int .u64 0, .int .i64 0] 32)).alloc (.cells #[.int .i64 0] 3))
      [(w.heap.size + 1, 0, .bool false), (w.heap.size + 1, 1, .int .u64 0), (w.heap.size + 1, 2, .int .i64 0)] (w.heap.size + 1) 3) :=
    St.call ⟨Cells.box3 (Cells.nil _) (by simp) _ _ _ _, fun o _ => free_box (by simp) _ _ _, by simp, ((Below.refl _ _).alloc (Nat.le_refl _) _).alloc (by simp) _⟩ ((Below.refl _ _).alloc (Nat.le_refl _) _)
  have HT : Hid (St w (((w.alloc (.cells #[.bool neg, .int .u64 n, .int .i64 y] 32)).alloc (.cells #[.bool false, .int .u64 0, .int .i64 0] 32)).alloc (.cells #[.int .i64 0] 3))
      [(w.heap.size + 1 + 1, 0, .int .i64 0)] (w.heap.size + 1 + 1) 1) :=
    ⟨Cells.box1 (Cells.nil _) (by simp) _ _, fun o _ => free_box (by simp) _ _ _, by simp, (((Below.refl _ _).alloc (Nat.le_refl _) _).alloc (by simp) _).alloc (by simp; omega) _⟩
  clear h he
  go_enter_defers Tryd.func37, Tryd.ntmps37
  go_wp2_with (first | (go_at_call 48; go_must (refine (HX.out _ (HEr.out _ HS.out.below)).mono ?_); rintro e w2 ⟨rfl, hb⟩; have HS2 := Lib.hid (HS.out.call hb); have HT2 := Lib.hid (HT.out.call hb); have HL2 := Lib.hid HS2.out.lt; have HL2' := Lib.hid HT2.out.lt; have HO := Lib.hid (below_at (Below.refl w2.heap.size w2) (.cells #[.bool false, .int .i8 0, .int .u64 0] 74)); have HS4 := Lib.hid (HS2.out.call HO.out); have HT4 := Lib.hid (HT2.out.call HO.out); obtain ⟨d0, d1, d2, -⟩ := HS4.out.cells; obtain ⟨d3, -⟩ := HT4.out.cells; have f0 := HS4.out.free 0 (by omega); have f1 := HS4.out.free 1 (by omega); have f2 := HS4.out.free 2 (by omega); have f3 := HT4.out.free 0 (by omega); clear hb))
  refine leaves_cons (f := 71) (args := #[.pointer (some ⟨w.heap.size + 1, 0, none⟩), .pointer (some ⟨w.heap.size + 1 + 1, 0, none⟩)]) (by simp) (by simp [go_sem]) ?_
  refine (idle71 _ _ _).mono ?_
  rintro e u' w'' ⟨rfl, rfl, rfl⟩
  have HE := (((HS4.out.below.setCell (p := ⟨w.heap.size + 1, 0, none⟩) (Nat.le_succ _) (.bool false)).setCell (p := ⟨w.heap.size + 1, 1, none⟩) (Nat.le_succ _) (.int .u64 0)).setCell (p := ⟨w.heap.size + 1, 2, none⟩) (Nat.le_succ _) (.int .i64 0)).setCell (p := ⟨w.heap.size + 1 + 1, 0, none⟩) (by show w.heap.size ≤ w.heap.size + 1 + 1; omega) (.int .i64 3)
  have hz := HS4.out.lt
  have hz1 := HT4.out.lt
  have hne : w.heap.size + 1 ≠ w.heap.size + 1 + 1 := by omega
  simp [Leaves, settle, results, Tryd.results37, go_sem, d0, d1, d2, d3, f0, f1, f2, f3]
  exact HE
end Go.Proofs.YthkmgjkajllemaaDoor.Spec

/- The law FnFixCeil answers true for every decimal and every scale. -/
namespace Go.Proofs.YthkmgjkajllemaaDoor.Spec
open Go.RowKit Go.Proofs.YthkmgjkajllemaaDoorW.PrintWords Go.Proofs.YthkmgjkajllemaaDoor.Num Go.Proofs.YthkmgjkajllemaaDoor.Make
set_option linter.unusedVariables false
set_option linter.unusedSimpArgs false

/-- The law's walk over a decimal, out of what its two calls tell. -/
theorem ceil_law_of (neg : Bool) (n s : Nat) (z : Int) (nb : Bool) (m t : Nat) (w : World) (hs : s ≤ 19) (hn : n ≤ 9999999999999999999)
    (h1 : ∀ W, Below w.heap.size w W → Calls Tryd.prog 27 #[.agg #[.bool neg, .int .u64 n, .int .i64 s], .int .i64 z] W fun e w' => e = .returned (.tuple #[.agg #[.bool nb, .int .u64 m, .int .i64 t], .int .i64 0]) ∧ Below W.heap.size W w')
    (h2 : ∀ W, Calls Tryd.prog 28 #[.agg #[.bool neg, .int .u64 n, .int .i64 s], .agg #[.bool nb, .int .u64 m, .int .i64 t], .int .i64 0, .int .i64 z, .int .i64 3] W fun e w' => e = .returned (.bool true) ∧ Below W.heap.size W w') :
    Calls Tryd.prog 6 #[.agg #[.bool neg, .int .u64 n, .int .i64 s], .int .i64 z] w fun e w' => e = .returned (.bool true) ∧ Below w.heap.size w w' := by
  have HI := Lib.hid (fun W => fixIs_ok neg n s W hn hs)
  have H1 := Lib.hid h1
  have H2 := Lib.hid h2
  have HS : Hid (St w (w.alloc (.cells #[.bool neg, .int .u64 n, .int .i64 s] 32)) [(w.heap.size, 0, .bool neg), (w.heap.size, 1, .int .u64 n), (w.heap.size, 2, .int .i64 s)] w.heap.size 0) :=
    ⟨Cells.box3 (Cells.nil _) rfl _ _ _ _, fun o ho => absurd ho (by omega), by simp, (Below.refl _ _).alloc (Nat.le_refl _) _⟩
  clear hs hn h1 h2
  go_enter Tryd.func6, Tryd.ntmps6
  go_wp2_with (first | (go_at_call 27; go_must (refine (H1.out _ HS.out.below).mono ?_); rintro e w2 ⟨rfl, hb⟩; have HS2 := Lib.hid (HS.out.call hb); have HO3 := Lib.hid (below_at (Below.refl w2.heap.size w2) (.cells #[.bool nb, .int .u64 m, .int .i64 t] 32)); have HS3 := Lib.hid (HS2.out.call HO3.out); have HW3 : Hid (St w (w2.alloc (.cells #[.bool nb, .int .u64 m, .int .i64 t] 32)) [(w2.heap.size, 0, .bool nb), (w2.heap.size, 1, .int .u64 m), (w2.heap.size, 2, .int .i64 t)] w2.heap.size 0) := Lib.hid ⟨Cells.box3 (Cells.nil _) rfl _ _ _ _, fun o ho => absurd ho (by omega), by simp, HS3.out.below⟩; obtain ⟨a0, a1, a2, -⟩ := HS3.out.cells; clear hb) | (go_at_call 20; go_must (refine (HI.out _).mono ?_); rintro e w4 ⟨rfl, hb⟩; have HS4 := Lib.hid (HS3.out.call hb); have HW4 := Lib.hid (HW3.out.call hb); obtain ⟨b0, b1, b2, -⟩ := HS4.out.cells; obtain ⟨c0, c1, c2, -⟩ := HW4.out.cells; clear hb) | (go_at_call 28; go_must (refine (H2.out _).mono ?_); rintro e w5 ⟨rfl, hb⟩; have HS5 := Lib.hid (HS4.out.call hb); clear hb))
  go_ret
  exact ⟨rfl, HS5.out.below⟩
theorem ceil_law_bad (neg : Bool) (n : Nat) (y z : Int) (w : World) (h : 9999999999999999999 < n ∨ y < 0 ∨ 19 < y) (he : ErrAt w) :
    Calls Tryd.prog 6 #[.agg #[.bool neg, .int .u64 n, .int .i64 y], .int .i64 z] w fun e w' => e = .returned (.bool true) ∧ Below w.heap.size w w' := by
  have HI : Hid (∀ W, Calls Tryd.prog 20 #[.agg #[.bool neg, .int .u64 n, .int .i64 y]] W fun e w' => e = .returned (.bool false) ∧ Below W.heap.size W w') := by
    refine Lib.hid (fun W => ?_)
    by_cases hn : 9999999999999999999 < n
    · exact fixIs_big neg n y W hn
    · exact fixIs_scale neg n y W (by omega) (by omega)
  have H1 := Lib.hid (fun W hW => fixCeil_bad neg n y z W h hW)
  have HEr := Lib.hid (fun (W : World) (hb : Below w.heap.size w W) => he.below hb)
  have HS : Hid (St w (w.alloc (.cells #[.bool neg, .int .u64 n, .int .i64 y] 32)) [(w.heap.size, 0, .bool neg), (w.heap.size, 1, .int .u64 n), (w.heap.size, 2, .int .i64 y)] w.heap.size 0) :=
    ⟨Cells.box3 (Cells.nil _) rfl _ _ _ _, fun o ho => absurd ho (by omega), by simp, (Below.refl _ _).alloc (Nat.le_refl _) _⟩
  clear h he
  go_enter Tryd.func6, Tryd.ntmps6
  go_wp2_with (first | (go_at_call 27; go_must (refine (H1.out _ (HEr.out _ HS.out.below)).mono ?_); rintro e w2 ⟨rfl, hb⟩; have HS2 := Lib.hid (HS.out.call hb); have HO3 := Lib.hid (below_at (Below.refl w2.heap.size w2) (.cells #[.bool false, .int .u64 0, .int .i64 0] 32)); have HS3 := Lib.hid (HS2.out.call HO3.out); obtain ⟨a0, a1, a2, -⟩ := HS3.out.cells; clear hb) | (go_at_call 20; go_must (refine (HI.out _).mono ?_); rintro e w4 ⟨rfl, hb⟩; have HS4 := Lib.hid (HS3.out.call hb); clear hb))
  go_ret
  exact ⟨rfl, HS4.out.below⟩
theorem pow_at {w W : World} (hp : Fint.PowAt w) (i : Nat) (hi : i < 20) (hb : Below w.heap.size w W) : W.cell? ⟨0, i, none⟩ = some (.int .u64 ((10 ^ i : Nat) : Int)) := pw_cell_below hb (hp i hi)
theorem div_le10 (n d : Nat) (hn : n ≤ 9999999999999999999) (hd : 1 ≤ d) : n / 10 ^ d ≤ 999999999999999999 := by
  have h : n / 10 ^ d ≤ n / 10 := Nat.div_le_div_left (ten_le d hd).1 (by decide)
  omega
theorem rUp_le (n d : Nat) (hn : n ≤ 9999999999999999999) (hd : 1 ≤ d) : rUp n d ≤ 9999999999999999999 := by
  have := div_le10 n d hn hd
  unfold rUp
  split <;> omega
/-- The law. -/
theorem ceil_law (neg : Bool) (n : Nat) (y z : Int) (w : World) (hp : Fint.PowAt w) (he : ErrAt w) (hz0 : -9223372036854775808 ≤ z) (hz1 : z ≤ 9223372036854775807) :
    Calls Tryd.prog 6 #[.agg #[.bool neg, .int .u64 n, .int .i64 y], .int .i64 z] w fun e w' => e = .returned (.bool true) ∧ Below w.heap.size w w' := by
  by_cases h : 9999999999999999999 < n ∨ y < 0 ∨ 19 < y
  · exact ceil_law_bad neg n y z w h he
  · obtain ⟨s, rfl⟩ := Int.eq_ofNat_of_zero_le (show 0 ≤ y by omega)
    have hs : s ≤ 19 := by omega
    have hn : n ≤ 9999999999999999999 := by omega
    clear h
    by_cases hz : z < 0
    · by_cases h0 : s = 0
      · exact ceil_law_of neg n s z (neg && decide (0 < n)) n s w hs hn
          (fun W hW => fixCeil_ok neg n s z _ n s W hs hn hs (fun W' hW' => ceil_stay_neg _ n s W' hs z hz hz0 h0))
          (fun W => gvTo_stay_neg neg n s hn z 3 W h0 hz hz0)
      · cases hb : (neg && decide (0 < n))
        · have hm : rq 3 (neg && decide (0 < n)) (n * 10 ^ 0) (10 ^ s) = rUp n (s - 0) := by
            have := rq_ceil (neg && decide (0 < n)) n 0 s
            rw [Nat.zero_add] at this
            rw [this, hb]; rfl
          have g := gvTo_round_neg neg n s hn (rUp n (s - 0)) z 3
          refine ceil_law_of neg n s z (neg && decide (0 < n) && decide (0 < rUp n (s - 0))) (rUp n (s - 0)) 0 w hs hn
            (fun W hW => fixCeil_ok neg n s z _ (rUp n (s - 0)) 0 W hs hn (by omega) (fun W' hW' => ceil_neg_up _ n s W' hs hn z hz hz0 (by omega) hb (pow_at hp _ (by omega) (below_by hW hW'))))
            (fun W => g W hs hz hz0 (by omega) hm (rUp_le n _ hn (by omega)))
        · have hm : rq 3 (neg && decide (0 < n)) (n * 10 ^ 0) (10 ^ s) = n / 10 ^ (s - 0) := by
            have := rq_ceil (neg && decide (0 < n)) n 0 s
            rw [Nat.zero_add] at this
            rw [this, hb]; rfl
          have g := gvTo_round_neg neg n s hn (n / 10 ^ (s - 0)) z 3
          refine ceil_law_of neg n s z (neg && decide (0 < n) && decide (0 < n / 10 ^ (s - 0))) (n / 10 ^ (s - 0)) 0 w hs hn
            (fun W hW => fixCeil_ok neg n s z _ (n / 10 ^ (s - 0)) 0 W hs hn (by omega) (fun W' hW' => ceil_neg_down _ n s W' hs hn z hz hz0 (by omega) hb (pow_at hp _ (by omega) (below_by hW hW'))))
            (fun W => g W hs hz hz0 (by omega) hm (by have := div_le10 n (s - 0) hn (by omega); omega))
    · obtain ⟨k, rfl⟩ := Int.eq_ofNat_of_zero_le (show 0 ≤ z by omega)
      by_cases hk : s ≤ k
      · exact ceil_law_of neg n s k (neg && decide (0 < n)) n s w hs hn
          (fun W hW => fixCeil_ok neg n s k _ n s W hs hn hs (fun W' hW' => ceil_stay_nat _ n s W' hs k hk))
          (fun W => gvTo_stay_nat neg n s hn k 3 W hs hk (by omega))
      · have hks : k + (s - k) = s := by omega
        cases hb : (neg && decide (0 < n))
        · have hm : rq 3 (neg && decide (0 < n)) (n * 10 ^ k) (10 ^ s) = rUp n (s - k) := by
            have := rq_ceil (neg && decide (0 < n)) n k (s - k)
            rw [hks] at this
            rw [this, hb]; rfl
          refine ceil_law_of neg n s k (neg && decide (0 < n) && decide (0 < rUp n (s - k))) (rUp n (s - k)) k w hs hn
            (fun W hW => fixCeil_ok neg n s k _ (rUp n (s - k)) k W hs hn (by omega) (fun W' hW' => ceil_nat_up _ n s W' hs hn k (by omega) hb (pow_at hp _ (by omega) (below_by hW hW'))))
            (fun W => gvTo_round_nat neg n s hn (rUp n (s - k)) k 3 W hs (by omega) hm (rUp_le n _ hn (by omega)))
        · have hm : rq 3 (neg && decide (0 < n)) (n * 10 ^ k) (10 ^ s) = n / 10 ^ (s - k) := by
            have := rq_ceil (neg && decide (0 < n)) n k (s - k)
            rw [hks] at this
            rw [this, hb]; rfl
          refine ceil_law_of neg n s k (neg && decide (0 < n) && decide (0 < n / 10 ^ (s - k))) (n / 10 ^ (s - k)) k w hs hn
            (fun W hW => fixCeil_ok neg n s k _ (n / 10 ^ (s - k)) k W hs hn (by omega) (fun W' hW' => ceil_nat_down _ n s W' hs hn k (by omega) hb (pow_at hp _ (by omega) (below_by hW hW'))))
            (fun W => gvTo_round_nat neg n s hn (n / 10 ^ (s - k)) k 3 W hs (by omega) hm (by have := div_le10 n (s - k) hn (by omega); omega))
end Go.Proofs.YthkmgjkajllemaaDoor.Spec
