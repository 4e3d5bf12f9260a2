/- FnDecShift: for every decimal and every shift the law answers true. -/
import Derived.Test.YthkmgjkajllemaaDecShiftD
import Derived.Test.YthkmgjkajllemaaPzzFits1x
import Derived.Test.YthkmgjkajllemaaParPlacesx
import Derived.Test.YthkmgjkajllemaaRows
import Derived.WalkKit
import Derived.ProofKit
import Derived.OpenShut
import Derived.OpenVars
import Derived.ChangeOld
import Derived.Lib.SmallJoins

/- Numbers out of texts: FracOf. -/
namespace Go.Proofs.Ythkmgjkajllemaa.Spec
open Go.RowKit Go.Proofs.YthkmgjkajllemaaW.PrintWords Go.Proofs.YthkmgjkajllemaaW.PrintLast Go.Proofs.YthkmgjkajllemaaW.PrintMore Go.Proofs.Ythkmgjkajllemaa.Num Go.Proofs.Ythkmgjkajllemaa.Str Go.Proofs.Ythkmgjkajllemaa.Nats Go.Proofs.Ythkmgjkajllemaa.Val Go.Proofs.Ythkmgjkajllemaa.NatOf Go.Proofs.Ythkmgjkajllemaa.Mem Go.Proofs.Ythkmgjkajllemaa.NatOps
set_option linter.unusedVariables false
set_option linter.unusedSimpArgs false

set_option maxHeartbeats 2000000 in
set_option maxRecDepth 100000 in
theorem fracOf_any (s : ByteArray) (e : Int) (sg : Bool) (N P D : Nat) (w : World)
    (h30 : ∀ W, Calls Try.prog 30 #[.agg #[.string s, .int .i64 e]] W fun r w' => ∃ v, r = .returned (.agg #[.bool sg, v, .int .i64 e]) ∧ IsNew w' W.heap.size v N ∧ Below W.heap.size W w')
    (h31 : ∀ u b0 W, IsNew W b0 u N → b0 ≤ W.heap.size → Calls Try.prog 31 #[.agg #[.bool sg, u, .int .i64 e]] W fun r w' => ∃ u' v', r = .returned (.agg #[.bool sg, u', v']) ∧ IsNew w' b0 u' P ∧ IsNew w' b0 v' D ∧ Below W.heap.size W w') :
    Calls Try.prog 20 #[.agg #[.string s, .int .i64 e]] w fun r w' => ∃ A n c A' n' c', r = .returned (.agg #[.bool sg, .slice A n c, .slice A' n' c']) ∧ Below w.heap.size w w' := by
  have X30 := Lib.hid h30
  have X31 := Lib.hid h31
  have HS : Hid (St w ((w.alloc (.cells #[.string s, .int .i64 e] 24)).alloc (.cells #[.bool false, .slice none 0 0, .slice none 0 0] 40))
      [(w.heap.size + 1, 0, .bool false), (w.heap.size + 1, 1, .slice none 0 0), (w.heap.size + 1, 2, .slice none 0 0), (w.heap.size, 0, .string s), (w.heap.size, 1, .int .i64 e)] (w.heap.size + 1) 3) :=
    ⟨Cells.box3 (Cells.box2 (Cells.nil _) rfl _ _ _) (by simp) _ _ _ _, fun o _ => free_box (by simp) _ _ _, by simp, ((Below.refl _ _).alloc (Nat.le_refl _) _).alloc (by simp) _⟩
  have hne : w.heap.size + 1 ≠ w.heap.size := by omega
  clear h30 h31
  go_enter Try.func20, Try.ntmps20
  go_wp2_with fail
  refine (X30.out _).mono ?_
  rintro r w2 ⟨v, rfl, hn, hb⟩
  have HS2 := Lib.hid (HS.out.call hb)
  have HN2 := Lib.hid hn
  have hb0 := hb.size
  obtain ⟨A2, c2, rfl⟩ := hn.slice
  clear hn hb
  go_wp2_with fail
  refine (X31.out _ _ _ HN2.out hb0).mono ?_
  rintro r w3 ⟨u', v', rfl, hu, hv, hb⟩
  have HS3 := Lib.hid (HS2.out.call hb)
  obtain ⟨A3, c3, rfl⟩ := hu.slice
  obtain ⟨A4, c4, rfl⟩ := hv.slice
  obtain ⟨d0, d1, d2, b0', b1', -⟩ := HS3.out.cells
  have f0 := HS3.out.free 0 (by omega)
  have f1 := HS3.out.free 1 (by omega)
  have f2 := HS3.out.free 2 (by omega)
  have hz := HS3.out.lt
  clear hu hv hb
  go_wp2_with fail
  have HF : Hid (Below w.heap.size w _) := ((HS3.out.below.setCell (p := ⟨w.heap.size + 1, 0, none⟩) (Nat.le_succ _) (.bool sg)).setCell (p := ⟨w.heap.size + 1, 1, none⟩) (Nat.le_succ _) (.slice A3 (limbs P).length c3)).setCell (p := ⟨w.heap.size + 1, 2, none⟩) (Nat.le_succ _) (.slice A4 (limbs D).length c4)
  exact bodyPost_ret (v := .agg #[.bool sg, .slice A3 (limbs P).length c3, .slice A4 (limbs D).length c4]) (by simp [results, Try.results20, go_sem, d0, d1, d2, f0, f1, f2, hz]) rfl ⟨_, _, _, _, _, _, rfl, HF.out⟩
end Go.Proofs.Ythkmgjkajllemaa.Spec

/- FracOf of the text of a number of at most 60 digits, with an exponent from -60 to 60. -/
namespace Go.Proofs.Ythkmgjkajllemaa.Spec
open Go.RowKit Go.Proofs.YthkmgjkajllemaaW.PrintWords Go.Proofs.YthkmgjkajllemaaW.PrintLast Go.Proofs.YthkmgjkajllemaaW.PrintMore Go.Proofs.Ythkmgjkajllemaa.Num Go.Proofs.Ythkmgjkajllemaa.Str Go.Proofs.Ythkmgjkajllemaa.Nats Go.Proofs.Ythkmgjkajllemaa.Val Go.Proofs.Ythkmgjkajllemaa.NatOf Go.Proofs.Ythkmgjkajllemaa.Mem Go.Proofs.Ythkmgjkajllemaa.NatOps Go.Proofs.Ythkmgjkajllemaa.Big Go.Proofs.Ythkmgjkajllemaa.Fit
set_option linter.unusedVariables false
set_option linter.unusedSimpArgs false

theorem natOf_text (N : Nat) (h : 0 < N) (hN : N < 10 ^ 60) (W : World) : Calls Try.prog 53 #[.string (strOfNums (decs N).reverse)] W fun e w' => ∃ v, e = .returned (.tuple #[v, .bool true]) ∧ IsNew w' W.heap.size v N ∧ Below W.heap.size W w' := by
  have hl := decs_length 60 N hN
  have hp : 0 < (decs N).length := by rw [decs_pos h]; simp
  have hlm := limbs_length 7 N (Nat.lt_trans hN (by decide))
  exact natOf_any _ _ N (dg_text N h) (by omega) (decs_low N h) hp (by omega) W

theorem parseWhole_text (neg : Bool) (N : Nat) (hn : neg = true → 0 < N) (hN : N < 10 ^ 60) (W : World) : Calls Try.prog 49 #[.string (textZ neg N)] W fun e w' => ∃ v, e = .returned (.tuple #[.agg #[.bool neg, v], .bool true]) ∧ IsNew w' W.heap.size v N ∧ Below W.heap.size W w' := by
  rcases Nat.eq_zero_or_pos N with h0 | h0
  · subst h0
    have hneg : neg = false := by
      cases neg
      · rfl
      · exact absurd (hn rfl) (by omega)
    subst hneg
    have e : textZ false 0 = ⟨#[48]⟩ := by unfold textZ; rw [if_pos rfl]
    rw [e]
    exact parseWhole_nat ⟨#[48]⟩ 0 W (by decide) (by decide) (by decide) (fun W' => natOf_zero W')
  · cases neg
    · rw [← text_pos N h0]
      have hh := text_head N h0
      have hs : 0 < (strOfNums (decs N).reverse).size := by rw [strOfNums_size, List.length_reverse, decs_pos h0]; simp
      exact parseWhole_nat _ N W hs hh.1 hh.2 (fun W' => natOf_text N h0 hN W')
    · have hs : 0 < (textZ true N).size := by rw [← text_neg N h0, ByteArray.size_append]; show 0 < 1 + _; omega
      have := parseWhole_neg (textZ true N) N W hs (textZ_head N h0) (fun W' => by rw [textZ_tail N h0]; exact natOf_text N h0 hN W')
      rw [show (true && decide (0 < N)) = true by simp [h0]] at this
      exact this

theorem fracOf_text (neg : Bool) (N : Nat) (e : Int) (hn : neg = true → 0 < N) (hN : N < 10 ^ 60) (he0 : -60 ≤ e) (he1 : e ≤ 60) (w : World) :
    Calls Try.prog 20 #[.agg #[.string (textZ neg N), .int .i64 e]] w fun r w' => ∃ A n c A' n' c', r = .returned (.agg #[.bool neg, .slice A n c, .slice A' n' c']) ∧ Below w.heap.size w w' := by
  have hlm := limbs_length 7 N (Nat.lt_trans hN (by decide))
  obtain ⟨z, hz⟩ : ∃ z : Int, z = if neg then -(N : Int) else N := ⟨_, rfl⟩
  have hza : z.natAbs = N := by rw [hz]; cases neg <;> simp
  have hzn : decide (z < 0) = neg := by
    rw [hz]
    cases neg
    · exact decide_eq_false (by simp)
    · have := hn rfl
      exact decide_eq_true (by simp; omega)
  have h30 := fun W => decIn_any (textZ neg N) e neg N W (fun W' => wholeIn_any (textZ neg N) neg N W' (fun W2 => parseWhole_text neg N hn hN W2))
  by_cases h : 0 ≤ e
  · obtain ⟨k, rfl⟩ := Int.eq_ofNat_of_zero_le h
    have hk10 := limbs_length 8 (10 ^ k) (Nat.lt_of_le_of_lt (Nat.pow_le_pow_right (by decide) (show k ≤ 60 by omega)) (by decide))
    refine fracOf_any (textZ neg N) k neg N (N * 10 ^ k) 1 w h30 (fun u b0 W h1 h2 => ?_)
    have := decFrac_nat z k b0 u W (by rw [hza]; exact h1) h2 (by rw [hza]; omega) (by omega) (by omega)
    rw [hzn, hza] at this
    exact this
  · obtain ⟨s, hs⟩ := Int.eq_ofNat_of_zero_le (show 0 ≤ -e by omega)
    obtain rfl : e = -(s : Int) := by omega
    refine fracOf_any (textZ neg N) (-(s : Int)) neg N N (10 ^ s) w h30 (fun u b0 W h1 h2 => ?_)
    have := decFrac_pos z s b0 u W (by rw [hza]; exact h1) h2 (by omega) (by omega)
    rw [hzn, hza] at this
    exact this
end Go.Proofs.Ythkmgjkajllemaa.Spec

/- arOne: the decimal that fits, and its fraction. -/
namespace Go.Proofs.Ythkmgjkajllemaa.Spec
open Go.RowKit Go.Proofs.YthkmgjkajllemaaW.PrintWords Go.Proofs.YthkmgjkajllemaaW.PrintLast Go.Proofs.YthkmgjkajllemaaW.PrintMore Go.Proofs.Ythkmgjkajllemaa.Num Go.Proofs.Ythkmgjkajllemaa.Str Go.Proofs.Ythkmgjkajllemaa.Nats Go.Proofs.Ythkmgjkajllemaa.Val Go.Proofs.Ythkmgjkajllemaa.NatOf Go.Proofs.Ythkmgjkajllemaa.Mem Go.Proofs.Ythkmgjkajllemaa.NatOps Go.Proofs.Ythkmgjkajllemaa.Big Go.Proofs.Ythkmgjkajllemaa.Fit
set_option linter.unusedVariables false
set_option linter.unusedSimpArgs false

theorem cell_set_other {w : World} {p q : Addr} {u v : Value} (h : w.cell? q = some v) (hn : q ≠ p) : (w.setCell p u).cell? q = some v :=
  (World.cell?_setCell_other _ _ _ _ (fun e => hn e.symm)).trans h

theorem St.put2 {w w2 : World} {b : Nat} {x0 x1 y0 y1 u0 u1 v0 v1 v2 : Value}
    (h : St w w2 [(b + 1, 0, u0), (b + 1, 1, u1), (b, 0, x0), (b, 1, x1)] (b + 1) 2) (h2 : St w w2 [(b + 1 + 1, 0, v0), (b + 1 + 1, 1, v1), (b + 1 + 1, 2, v2)] (b + 1 + 1) 3) (hw : w.heap.size ≤ b) :
    St w ((w2.setCell ⟨b, 0, none⟩ y0).setCell ⟨b, 1, none⟩ y1) [(b + 1, 0, u0), (b + 1, 1, u1), (b, 0, y0), (b, 1, y1)] (b + 1) 2 ∧
    St w ((w2.setCell ⟨b, 0, none⟩ y0).setCell ⟨b, 1, none⟩ y1) [(b + 1 + 1, 0, v0), (b + 1 + 1, 1, v1), (b + 1 + 1, 2, v2)] (b + 1 + 1) 3 := by
  obtain ⟨c0, c1, c2, c3, -⟩ := h.cells
  obtain ⟨d0, d1, d2, -⟩ := h2.cells
  have hne1 : b + 1 ≠ b := by omega
  have hne2 : b + 1 + 1 ≠ b := by omega
  have HB := (h.below.setCell (p := ⟨b, 0, none⟩) hw y0).setCell (p := ⟨b, 1, none⟩) hw y1
  have hz1 := h.lt
  have hz2 := h2.lt
  have k0 := World.cell?_setCell_same w2 ⟨b, 0, none⟩ y0 c2
  have k1 : (w2.setCell ⟨b, 0, none⟩ y0).cell? ⟨b, 1, none⟩ = some x1 := cell_set_other c3 (by simp)
  have k2 := World.cell?_setCell_same (w2.setCell ⟨b, 0, none⟩ y0) ⟨b, 1, none⟩ y1 k1
  refine ⟨⟨⟨?_, ?_, ?_, ?_, trivial⟩, fun o ho => ?_, by simpa using hz1, HB⟩, ⟨⟨?_, ?_, ?_, trivial⟩, fun o ho => ?_, by simpa using hz2, HB⟩⟩
  · exact cell_set_other (cell_set_other c0 (by simp)) (by simp)
  · exact cell_set_other (cell_set_other c1 (by simp)) (by simp)
  · exact cell_set_other k0 (by simp)
  · exact k2
  · have := h.free o ho
    simpa using this
  · exact cell_set_other (cell_set_other d0 (by simp)) (by simp)
  · exact cell_set_other (cell_set_other d1 (by simp)) (by simp)
  · exact cell_set_other (cell_set_other d2 (by simp)) (by simp)
  · have := h2.free o ho
    simpa using this

set_option maxHeartbeats 2000000 in
set_option maxRecDepth 100000 in
theorem arOne_any (s t : ByteArray) (e f : Int) (sg : Bool) (w : World)
    (h19 : ∀ W, Calls Try.prog 19 #[.agg #[.string s, .int .i64 e], .int .i64 60, .int .i64 60] W fun r w' => r = .returned (.agg #[.string t, .int .i64 f]) ∧ Below W.heap.size W w')
    (h20 : ∀ W, Calls Try.prog 20 #[.agg #[.string t, .int .i64 f]] W fun r w' => ∃ A n c A' n' c', r = .returned (.agg #[.bool sg, .slice A n c, .slice A' n' c']) ∧ Below W.heap.size W w') :
    Calls Try.prog 11 #[.agg #[.string s, .int .i64 e]] w fun r w' => ∃ v, r = .returned (.tuple #[.agg #[.string t, .int .i64 f], v]) ∧ Below w.heap.size w w' := by
  have X19 := Lib.hid h19
  have X20 := Lib.hid h20
  clear h19 h20
  have HS : Hid (St w (((w.alloc (.cells #[.string s, .int .i64 e] 24)).alloc (.cells #[.string ⟨#[]⟩, .int .i64 0] 24)).alloc (.cells #[.bool false, .slice none 0 0, .slice none 0 0] 40))
      [(w.heap.size + 1, 0, .string ⟨#[]⟩), (w.heap.size + 1, 1, .int .i64 0), (w.heap.size, 0, .string s), (w.heap.size, 1, .int .i64 e)] (w.heap.size + 1) 2) :=
    St.call ⟨Cells.box2 (Cells.box2 (Cells.nil _) rfl _ _ _) (by simp) _ _ _, fun o _ => free_box (by simp) _ _ _, by simp, ((Below.refl _ _).alloc (Nat.le_refl _) _).alloc (by simp) _⟩ ((Below.refl _ _).alloc (Nat.le_refl _) _)
  have HT : Hid (St w (((w.alloc (.cells #[.string s, .int .i64 e] 24)).alloc (.cells #[.string ⟨#[]⟩, .int .i64 0] 24)).alloc (.cells #[.bool false, .slice none 0 0, .slice none 0 0] 40))
      [(w.heap.size + 1 + 1, 0, .bool false), (w.heap.size + 1 + 1, 1, .slice none 0 0), (w.heap.size + 1 + 1, 2, .slice none 0 0)] (w.heap.size + 1 + 1) 3) :=
    ⟨Cells.box3 (Cells.nil _) (by simp) _ _ _ _, fun o _ => free_box (by simp) _ _ _, by simp, (((Below.refl _ _).alloc (Nat.le_refl _) _).alloc (by simp) _).alloc (by simp; omega) _⟩
  have HA : Hid (St w (((w.alloc (.cells #[.string s, .int .i64 e] 24)).alloc (.cells #[.string ⟨#[]⟩, .int .i64 0] 24)).alloc (.cells #[.bool false, .slice none 0 0, .slice none 0 0] 40)) [] w.heap.size 2) :=
    St.call (St.call ⟨Cells.nil _, fun o _ => free_box (by simp) _ _ _, by simp, (Below.refl _ _).alloc (Nat.le_refl _) _⟩ ((Below.refl _ _).alloc (Nat.le_refl _) _)) ((Below.refl _ _).alloc (Nat.le_refl _) _)
  have hne1 : w.heap.size + 1 ≠ w.heap.size := by omega
  have hne2 : w.heap.size + 1 + 1 ≠ w.heap.size := by omega
  have hne3 : w.heap.size + 1 + 1 ≠ w.heap.size + 1 := by omega
  go_enter Try.func11, Try.ntmps11
  go_wp2_with fail
  refine (X19.out _).mono ?_
  rintro r w2 ⟨rfl, hb⟩
  have HP := Lib.hid (St.put2 (y0 := .string t) (y1 := .int .i64 f) (HS.out.call hb) (HT.out.call hb) (Nat.le_refl _))
  obtain ⟨-, -, c0, c1, -⟩ := (HS.out.call hb).cells
  have f0 := (HA.out.call hb).free 0 (by omega)
  have f1 := (HA.out.call hb).free 1 (by omega)
  clear hb HS HT HA
  go_wp2_with fail
  obtain ⟨W, hW⟩ : ∃ W, (w2.setCell ⟨w.heap.size, 0, none⟩ (.string t)).setCell ⟨w.heap.size, 1, none⟩ (.int .i64 f) = W := ⟨_, rfl⟩
  rw [hW] at HP ⊢
  clear hW c0 c1 f0 f1
  have HS1 := Lib.hid (HP.out.1.call (below_drew (Below.refl _ _)))
  have HT1 := Lib.hid (HP.out.2.call (below_drew (Below.refl _ _)))
  clear HP
  obtain ⟨-, -, e0, e1, -⟩ := HS1.out.cells
  go_region_held3 (fun W' => W'.cell? ⟨w.heap.size, 0, none⟩ = some (.string t) ∧ W'.cell? ⟨w.heap.size, 1, none⟩ = some (.int .i64 f))
    (first | with_reducible exact ⟨b0', b1'⟩ | with_reducible exact ⟨e0, e1⟩ | go_keep)
    (first | (go_at_call 20; (refine (X20.out _).mono ?_); rintro r w3 ⟨A3, n3, c3, A4, n4, c4, rfl, hb⟩; have HS2 := Lib.hid (HS1.out.call hb); have HT2 := Lib.hid (HT1.out.call hb); obtain ⟨d0, d1, b0', b1', -⟩ := HS2.out.cells; obtain ⟨d2, d3, d4, -⟩ := HT2.out.cells; have f0 := HS2.out.free 0 (by omega); have f1 := HS2.out.free 1 (by omega); have f2 := HT2.out.free 0 (by omega); have f3 := HT2.out.free 1 (by omega); have f4 := HT2.out.free 2 (by omega); have hz := HT2.out.lt; have hz1 := HS2.out.lt; clear hb))
  all_goals (go_wp2; have HF : Hid (Below w.heap.size w _) := ((((HT2.out.below.setCell (p := ⟨w.heap.size + 1, 0, none⟩) (Nat.le_succ _) (.string t)).setCell (p := ⟨w.heap.size + 1, 1, none⟩) (Nat.le_succ _) (.int .i64 f)).setCell (p := ⟨w.heap.size + 1 + 1, 0, none⟩) (by show w.heap.size ≤ w.heap.size + 1 + 1; omega) (.bool sg)).setCell (p := ⟨w.heap.size + 1 + 1, 1, none⟩) (by show w.heap.size ≤ w.heap.size + 1 + 1; omega) (.slice A3 n3 c3)).setCell (p := ⟨w.heap.size + 1 + 1, 2, none⟩) (by show w.heap.size ≤ w.heap.size + 1 + 1; omega) (.slice A4 n4 c4); exact bodyPost_ret (v := .tuple #[.agg #[.string t, .int .i64 f], .agg #[.bool sg, .slice A3 n3 c3, .slice A4 n4 c4]]) (by simp [results, Try.results11, go_sem, d0, d1, d2, d3, d4, f0, f1, f2, f3, f4, hz, hz1]) rfl ⟨_, rfl, HF.out⟩)
end Go.Proofs.Ythkmgjkajllemaa.Spec

/- The law FnDecShift answers true for every decimal and every shift. -/
namespace Go.Proofs.Ythkmgjkajllemaa.Shift
open Go.RowKit Go.Proofs.YthkmgjkajllemaaW.PrintWords Go.Proofs.YthkmgjkajllemaaW.PrintLast Go.Proofs.YthkmgjkajllemaaW.PrintMore Go.Proofs.Ythkmgjkajllemaa.Num Go.Proofs.Ythkmgjkajllemaa.Big Go.Proofs.Ythkmgjkajllemaa.Wsum Go.Proofs.Ythkmgjkajllemaa.DecMake Go.Proofs.Ythkmgjkajllemaa.Mem Go.Proofs.Ythkmgjkajllemaa.BigSet Go.Proofs.Ythkmgjkajllemaa.BigIn Go.Proofs.Ythkmgjkajllemaa.NatOf Go.Proofs.Ythkmgjkajllemaa.Fit Go.Proofs.Ythkmgjkajllemaa.Made Go.Proofs.Ythkmgjkajllemaa.Spec
set_option linter.unusedVariables false
set_option linter.unusedSimpArgs false

theorem arPlaces_100 (n : Int) (w : World) :
    Calls Try.prog 12 #[.int .i64 n, .int .i64 100] w fun r w' => r = .returned (.int .i64 (n.tmod 101)) ∧ Below w.heap.size w w' := by
  refine (ParPlaces.laws_arPlaces.calls n 100 (n.tmod 101) w ?_).mono ?_
  · unfold ParPlaces.laws_arPlaces.f
    rw [show wrap64 (100 + 1) = 101 by unfold wrap64; omega, if_neg (by decide)]
  · rintro r w' ⟨rfl, hd⟩
    exact ⟨rfl, hd.below⟩
theorem tmod_in (n m : Int) (h : 0 < m) : -m < n.tmod m ∧ n.tmod m < m := by
  have h1 := Int.lt_tmod_of_pos n h
  have h2 := Int.tmod_lt_of_pos n h
  exact ⟨by omega, h2⟩

theorem C2.put {w : World} {g : Nat} {a b : Value} (h : C2 w g a b) (a' b' : Value) : C2 ((w.setCell ⟨g, 0, none⟩ a').setCell ⟨g, 1, none⟩ b') g a' b' :=
  ⟨cell_set_other (World.cell?_setCell_same _ _ _ h.c0) (by simp), World.cell?_setCell_same _ _ _ (cell_set_other h.c1 (by simp)), by simpa using h.f0, by simpa using h.f1, by simpa using h.lt⟩

set_option maxHeartbeats 2000000 in
theorem law_ok (s : ByteArray) (e n : Int) (w : World) (he : -9223372036854775808 ≤ e ∧ e ≤ 9223372036854775807) :
    Calls Try.prog 4 #[.agg #[.string s, .int .i64 e], .int .i64 n] w fun r w' => r = .returned (.bool true) ∧ Below w.heap.size w w' := by
  by_cases hfit : (s.size : Int) > 2147483647
  · have X10 : Hid (∀ W, Calls Try.prog 10 #[.agg #[.string s, .int .i64 e]] W fun r w' => r = .returned (.bool false) ∧ Below W.heap.size W w') := Lib.hid (fun W => PzzFits1.laws_zzFits1.calls s e false W (by unfold PzzFits1.laws_zzFits1.f; rw [if_pos hfit]))
    clear hfit
    go_enter Try.func4, Try.ntmps4
    go_wp2_with (first | (go_at_call 10; go_must (refine (X10.out _).mono ?_); rintro r w2 ⟨rfl, hb⟩; have HB := Lib.hid (below_one _ hb); clear hb))
    go_ret
    exact ⟨rfl, HB.out⟩
  · have X10 : Hid (∀ W, Calls Try.prog 10 #[.agg #[.string s, .int .i64 e]] W fun r w' => r = .returned (.bool true) ∧ Below W.heap.size W w') := Lib.hid (fun W => PzzFits1.laws_zzFits1.calls s e true W (by unfold PzzFits1.laws_zzFits1.f; rw [if_neg hfit]))
    obtain ⟨N, neg, hN, hn, h19⟩ := decFit_any s e w (by omega)
    have he' := tmod_in e 61 (by omega)
    have hn' := tmod_in n 101 (by omega)
    have X12 := Lib.hid (fun W => arPlaces_100 n W)
    generalize e.tmod 61 = e' at h19 he'
    generalize n.tmod 101 = n' at X12 hn'
    have X11 := Lib.hid (fun W => arOne_any s (textZ neg N) e e' neg W h19 (fun W' => fracOf_text neg N e' hn hN (by omega) (by omega) W'))
    have X13 := Lib.hid (fun W => decShift_ok neg N e' n' W hn hN (by omega) (by omega) (by omega) (by omega))
    have hwr : IntKind.i64.wrap (e' + n') = e' + n' := IntWalk.i64_in _ (by omega)
    generalize textZ neg N = txt at X11 X13
    clear hfit h19 hN hn he' hn'
    go_enter Try.func4, Try.ntmps4
    go_wp2_with fail
    refine (X10.out _).mono ?_
    rintro r w2 ⟨rfl, hb⟩
    obtain ⟨hC, hb1⟩ := made2 hb
    have HB := Lib.hid hb1
    have HC := Lib.hid hC
    obtain ⟨c0, c1, -, -, -⟩ := hC
    clear hb hb1
    go_wp2_with fail
    refine (X11.out _).mono ?_
    rintro r w3 ⟨v, rfl, hb⟩
    have HB3 := Lib.hid (below_by HB.out hb)
    have HC3 := HC.out.below hb
    have HC4 := Lib.hid (C2.put HC3 (.string txt) (.int .i64 e'))
    have HB4 := Lib.hid ((HB3.out.setCell (p := ⟨w.heap.size, 0, none⟩) (Nat.le_refl _) (.string txt)).setCell (p := ⟨w.heap.size, 1, none⟩) (Nat.le_refl _) (.int .i64 e'))
    obtain ⟨c0', c1', f0, f1, hz⟩ := HC3
    clear hb HC c0 c1
    go_wp2_with fail
    refine (X12.out _).mono ?_
    rintro r w4 ⟨rfl, hb⟩
    have HC5 := Lib.hid (HC4.out.below hb)
    have HB5 := Lib.hid (below_by HB4.out hb)
    obtain ⟨c0, c1, -, -, -⟩ := HC5.out
    clear hb c0' c1' f0 f1 hz HC4 HB4
    go_wp2_with fail
    refine (X13.out _).mono ?_
    rintro r w5 ⟨rfl, hb⟩
    have HB6 := Lib.hid (below_by HB5.out hb)
    obtain ⟨c0', c1', -, -, -⟩ := HC5.out.below hb
    have q0 := old_at c0' (.cells #[.string txt, .int .i64 (e' + n')] 24)
    have q1 := old_at c1' (.cells #[.string txt, .int .i64 (e' + n')] 24)
    have HB7 := Lib.hid (below_at HB6.out (.cells #[.string txt, .int .i64 (e' + n')] 24))
    clear hb c0 c1 c0' c1'
    go_wp2_with fail
    go_ret
    exact ⟨rfl, HB7.out⟩
end Go.Proofs.Ythkmgjkajllemaa.Shift

namespace Go.Proofs.Ythkmgjkajllemaa.fnDecShift
open Go.ChangeShapes Go.WideShapes Go.ChangeAt Go.RowKit Go.Joins Go.Proofs.Ythkmgjkajllemaa.Mem
set_option linter.unusedVariables false
set_option linter.unusedSimpArgs false

theorem own : ownKnob Try.prog.godebug = none := by kernel_rfl
theorem cells24 : Try.prog.cellsOf 24 = 2 := by kernel_rfl
set_option maxRecDepth 100000 in
theorem open_dec {H : Type} {enc : TypeId × Value → H} {W : World} {base : Nat} {sp : Nat → Bool} {hd : Bool} {r : Reach} {b0 : Nat} {v : Value} {d : DataW H} {p : List MemPlace}
    (hv : Value.okWide Try.prog W r b0 24 v) (h : DataW.Trod enc Try.prog W base sp hd 24 v d p) :
    ∃ (s : ByteArray) (z : Int), v = .agg #[.string s, .int .i64 z] ∧ d = .agg [.lit (.string s.data.toList), .lit (.int .i64 z)] ∧ p = [] ∧ s.size ≤ maxLen ∧ (Lit.int .i64 z).wf = true := by
  obtain ⟨c0, c1, y0, y1, m, rfl, rfl, rfl, hy0, hy1⟩ := open_agg2 Try.underlying24 (by kernel_rfl) cells24 hv h
  obtain ⟨s, e0, rfl, hs⟩ := DataW.trod_string Try.underlying9 hy0
  obtain ⟨z, e1, rfl, wz⟩ := DataW.trod_int Try.underlying3 hy1
  simp at e0 e1
  subst e0 e1
  exact ⟨s, z, rfl, rfl, rfl, hs, wz⟩
set_option maxRecDepth 100000 in
theorem shut_dec {H : Type} {enc : TypeId × Value → H} (W' : World) (b : Nat) (sp : Nat → Bool) (hd : Bool) (s : ByteArray) (z : Int) (hs : s.size ≤ maxLen) (wz : (Lit.int .i64 z).wf = true) :
    DataW.Trod enc Try.prog W' b sp hd 24 (.agg #[.string s, .int .i64 z]) (.agg [.lit (.string s.data.toList), .lit (.int .i64 z)]) [] := by
  simpa using shut_agg2 (enc := enc) (w := W') (base := b) (spare := sp) (held := hd) (y0 := (.lit (.string s.data.toList), [])) (y1 := (.lit (.int .i64 z), [])) Try.underlying24 (by kernel_rfl) cells24 ⟨1, by simp [DataW.trod, Try.underlying9, hs]⟩ ⟨1, by simp [DataW.trod, Try.underlying3, wz]⟩

/-! ### THE ROW's STEP: WRITTEN OUT: LEAVE IT -/
set_option maxRecDepth 100000 in
theorem lifted (os : Os) (started : os.Started) (H : Type) (enc : TypeId × Value → H) :
    ReturnsInHanded {} Try.checked os 4 .any (Rows.fnDecShiftSpec.pre6 enc Try.prog Try.f4 Rows.fnDecShiftRow.domain false) (Rows.fnDecShiftSpec.post enc Try.prog Try.f4 false true false false) := by
  refine returnsInHanded_of_change (C := Try.checked) own started (by kernel_rfl) Try.func4
    (ChangeSpec.witness6 (enc := enc) (C := Try.checked) false ⟨#[], #[.agg #[.string ⟨#[]⟩, .int .i64 0], .int .i64 0], []⟩ 8 (by kernel_rfl) (by kernel_rfl) (by kernel_rfl) (by kernel_rfl)) ?_
  intro W base args ds gs before hval0 hW hcnd _
  have hval : ∀ (j : Nat) t v, Try.f4.params[j]? = some t → args[j]? = some v → Value.okWide Try.prog W .any base t v := hval0
  have hW' := hW
  obtain ⟨p, q, hA0, hV, rfl, hfz, hnd⟩ := hW
  have hA : DataW.TrodAll enc Try.prog W 0 (fun _ => true) true Try.f4.params.toList args.toList ds p := hA0
  rw [Try.params4] at hA hval
  obtain ⟨v0, vs0, d0, ds0, p0, q0, hargs, rfl, rfl, h0, r0⟩ := trodAll_cons hA
  obtain ⟨v1, vs1, d1, ds1, p1, q1, rfl, rfl, rfl, h1, r1⟩ := trodAll_cons r0
  obtain ⟨rfl, rfl, rfl⟩ := trodAll_nil r1
  obtain rfl : args = #[v0, v1] := by cases args; simp_all
  obtain ⟨rfl, rfl⟩ := trodVars_none hV
  obtain ⟨s, z, rfl, rfl, rfl, hs, wz⟩ := open_dec (hval 0 24 v0 rfl rfl) h0
  obtain ⟨a1, rfl, rfl, rfl, w1⟩ := open_int Try.underlying3 (hval 1 3 v1 rfl rfl) h1
  clear hA0 hval0
  simp only [List.append_nil] at hW'
  refine (Shift.law_ok s z a1 W (bounds_i64 wz)).mono fun e W' ⟨he, hg⟩ => ?_
  subst he
  exact ⟨_, rfl, _, _, _, [], _, _, hW', trodAll_mk1 (shut_bool Try.underlying4 _), (trodAll_cons_mk (shut_dec _ _ _ _ s z hs wz) (trodAll_cons_mk (shut_int Try.underlying3 w1) trodAll_mk0)), rfl, hg.frame _, fun h => by cases h⟩

theorem over : Rows.fnDecShiftRow.holds Try.pinned (OpenSpec.ofChange Rows.fnDecShiftSpec) :=
  OpenClaim.holds_of_wide 4 Try.f4 rfl rfl rfl rfl rfl rfl rfl ⟨rfl, rfl, rfl, rfl, rfl⟩ rfl rfl rfl rfl rfl (by kernel_rfl) Try.func4 (by kernel_rfl)
    (of_decide_eq_true (by kernel_rfl)) (by unfold Func.isWrapper; first | (rw [if_pos (by decide +kernel)]; kernel_rfl) | (rw [if_neg (by decide +kernel)]; exact ⟨rfl, rfl⟩))
    (fun os started H enc _ => lifted os started H enc)

/-- ████ THE STATEMENT ████ -/
theorem proved : Rows.FnDecShiftSaid :=
  over
end Go.Proofs.Ythkmgjkajllemaa.fnDecShift
