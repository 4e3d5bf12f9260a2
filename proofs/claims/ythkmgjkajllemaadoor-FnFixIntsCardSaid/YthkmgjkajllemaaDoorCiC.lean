/- Lemmas and contracts of functions for the theorem of YthkmgjkajllemaaDoorCiF. -/
import Derived.Test.YthkmgjkajllemaaDoorCiB
import Derived.Deep.Cut
import Derived.Deep.CutRange
import Derived.BigQuiet

/- OfFix of the reference: the number of a decimal's parts, and whether they are a decimal's. -/
namespace Go.Proofs.YthkmgjkajllemaaDoor.Spec
open Go.RowKit Go.Proofs.YthkmgjkajllemaaDoorW.PrintWords Go.Proofs.YthkmgjkajllemaaDoor.Num Go.Proofs.YthkmgjkajllemaaDoor.Str Go.Proofs.YthkmgjkajllemaaDoor.Nats Go.Proofs.YthkmgjkajllemaaDoor.Val Go.Proofs.YthkmgjkajllemaaDoor.Arith Go.Proofs.YthkmgjkajllemaaDoor.NatOps Go.Proofs.YthkmgjkajllemaaDoor.Make Go.Proofs.YthkmgjkajllemaaDoor.Fint
set_option linter.unusedVariables false
set_option linter.unusedSimpArgs false

theorem made2' {w w1 : World} {a b : Value} {T : TypeId} (h : Below (w.alloc (.cells #[a, b] T)).heap.size (w.alloc (.cells #[a, b] T)) w1) : C2 w1 w.heap.size a b := (C2.new w a b T).below h
theorem set2_cells {W : World} {g : Nat} {a b a' b' : Value} (h : C2 W g a b) : Cells ((W.setCell ⟨g, 0, none⟩ a').setCell ⟨g, 1, none⟩ b') [(g, 0, a'), (g, 1, b')] := by
  have h0 := h.c0
  have h1 := h.c1
  refine ⟨?_, ?_, trivial⟩ <;> simp [go_sem, h0, h1]
set_option maxHeartbeats 4000000 in
set_option maxRecDepth 100000 in
theorem ofFix_ok (neg : Bool) (n : Nat) (y : Int) (w : World) (hn : n < 18446744073709551616) (hn1 : n ≤ 9999999999999999999) (hy0 : 0 ≤ y) (hy1 : y ≤ 19) :
    Calls Tryd.prog 29 #[.agg #[.bool neg, .int .u64 n, .int .i64 y]] w fun e w' => ∃ u, e = .returned (.tuple #[.agg #[.bool (neg && decide (0 < n)), u, .int .i64 (IntKind.i64.wrap (-y))], .bool true]) ∧ IsNew w' w.heap.size u n ∧ Below w.heap.size w w' := by
  have HF := Lib.hid (fun W => natFrom_new n W hn)
  have HW := Lib.hid (fun r W hr => wholeMk_any neg r n W hr)
  have hl3 := limbs_length 3 n (by omega)
  have HDg := Lib.hid (fun u W h => natDigits_any n u W h (by omega))
  rw [dg_decs] at HDg
  generalize (neg && decide (0 < n)) = sg at *
  obtain ⟨my, hmy⟩ : ∃ my, IntKind.i64.wrap (-y) = my := ⟨_, rfl⟩
  have hd19 : decide (((dg n : Nat) : Int) ≤ 19) = true := decide_eq_true (by have := (dg_le n 19).2 (by show (n : Int) < (10 : Int) ^ 19; omega); omega)
  have hd19' : decide (dg n ≤ 19) = true := decide_eq_true (by have := (dg_le n 19).2 (by show (n : Int) < (10 : Int) ^ 19; omega); omega)
  have hy2 : decide ((0 : Int) ≤ y) = true := decide_eq_true hy0
  have hy3 : decide (y ≤ 19) = true := decide_eq_true hy1
  clear hn1 hy0 hy1
  have HS : Hid (St w ((w.alloc (.cells #[.bool neg, .int .u64 n, .int .i64 y] 32)).alloc (.cells #[.bool false, .slice none 0 0, .int .i64 0] 40))
      [(w.heap.size + 1, 0, .bool false), (w.heap.size + 1, 1, .slice none 0 0), (w.heap.size + 1, 2, .int .i64 0), (w.heap.size, 0, .bool neg), (w.heap.size, 1, .int .u64 n), (w.heap.size, 2, .int .i64 y)] (w.heap.size + 1) 3) :=
    ⟨Cells.box3 (Cells.box3 (Cells.nil _) rfl _ _ _ _) (by simp) _ _ _ _, fun o _ => free_box (by simp) _ _ _, by simp, ((Below.refl _ _).alloc (Nat.le_refl _) _).alloc (by simp) _⟩
  have hne : w.heap.size + 1 ≠ w.heap.size := by omega
  rw [hmy]
  clear hn hl3
  go_enter Tryd.func29, Tryd.ntmps29
  go_wp2
  obtain ⟨W, hW⟩ : ∃ W, (w.alloc (.cells #[.bool neg, .int .u64 n, .int .i64 y] 32)).alloc (.cells #[.bool false, .slice none 0 0, .int .i64 0] 40) = W := ⟨_, rfl⟩
  rw [hW] at HS ⊢
  clear hW
  go_cut [4] from 5 (fun v4 wc => ∃ (bb : Nat) (u : Value), v4 = .pointer (some ⟨bb, 0, none⟩) ∧ Aside0 (St w wc [(w.heap.size + 1, 0, .bool false), (w.heap.size + 1, 1, .slice none 0 0), (w.heap.size + 1, 2, .int .i64 0), (w.heap.size, 0, .bool neg), (w.heap.size, 1, .int .u64 n), (w.heap.size, 2, .int .i64 y)] (w.heap.size + 1) 3) ∧ Aside0 (Cells wc [(bb, 0, .bool sg), (bb, 1, u)]) ∧ Aside0 (IsNew wc (w.heap.size + 2) u n) ∧ Aside0 (bb ≠ w.heap.size + 1))
  case first =>
    have HBD := Lib.hid (below_drew (Below.refl W.heap.size W))
    have hgr : w.heap.size + 2 ≤ W.heap.size := HS.out.lt
    have hlow : ∀ {q : Nat}, W.heap.size ≤ q → w.heap.size + 2 ≤ q := fun h => Nat.le_trans hgr h
    have hneB : ∀ {q : Nat}, W.heap.size ≤ q → q ≠ w.heap.size + 1 := fun h => by omega
    have hnr : W.heap.size ≠ w.heap.size := by omega
    obtain ⟨-, -, -, a0, a1, a2, -⟩ := HS.out.cells
    go_region_held3 (fun W' => W'.cell? ⟨w.heap.size, 0, none⟩ = some (.bool neg) ∧ W'.cell? ⟨w.heap.size, 1, none⟩ = some (.int .u64 n))
      (first | exact ⟨(HS.out.call (below_at HB3.out _)).cells.2.2.2.1, (HS.out.call (below_at HB3.out _)).cells.2.2.2.2.1⟩ | exact ⟨(HS.out.call HB3.out).cells.2.2.2.1, (HS.out.call HB3.out).cells.2.2.2.2.1⟩ | exact ⟨(HS.out.call HB2.out).cells.2.2.2.1, (HS.out.call HB2.out).cells.2.2.2.2.1⟩ | go_keep)
      (first | (go_at_call 11; go_must (refine (HF.out _).mono ?_); go_must (rintro r w2 ⟨vt, rfl, hn2, hb⟩); go_must (first | have HB2 := Lib.hid (below_by HBD.out hb) | (have HB2 := Lib.hid (below_by (below_drew (below_at (Below.refl W.heap.size W) _)) hb); have HC2 := Lib.hid (((C2.new W _ _ _).below (below_drew (Below.refl _ _))).below hb)) | (have HB2 := Lib.hid (below_by (below_at HBD.out _) hb); have HC2 := Lib.hid (made2' hb))); have HN2 := Lib.hid hn2; obtain ⟨A2, c2, rfl⟩ := hn2.slice; go_must (have hne2 : w2.heap.size ≠ w.heap.size := Nat.ne_of_gt (Nat.lt_of_lt_of_le (Nat.lt_of_lt_of_le (Nat.lt_add_of_pos_right (by decide)) hgr) HB2.out.size)); clear hn2 hb) | (go_at_call 62; (first | (with_reducible refine (HW.out _ _ HN2.out.isNat).mono ?_) | (with_reducible refine (HW.out _ _ (HN2.out.alloc _).isNat).mono ?_)); rintro r w3 ⟨rfl, hb⟩; (first | (have HB3 := Lib.hid (below_by HB2.out hb); have HN3 := Lib.hid (HN2.out.below hb); (first | have HC3 := HC2.out.below hb | skip)) | (have HB3 := Lib.hid (below_by (below_at HB2.out _) hb); have HN3 := Lib.hid ((HN2.out.alloc _).below hb); have HN2b := Lib.hid HN2.out; have HB23 := Lib.hid (below_by (below_at (Below.refl w2.heap.size w2) _) hb); have HC3 := made2' hb)); (try obtain ⟨k0, k1, f0, f1, hlt⟩ := HC3); have hne3 : w3.heap.size ≠ w.heap.size := Nat.ne_of_gt (Nat.lt_of_lt_of_le (Nat.lt_of_lt_of_le (Nat.lt_add_of_pos_right (by decide)) hgr) HB3.out.size); obtain ⟨t0, t1, t2, t3, t4, t5, -⟩ := (HS.out.call HB3.out).cells; clear hb))
    all_goals (go_wp2_with fail)
    all_goals go_meet
    all_goals (first | exact ⟨w3.heap.size, _, rfl, ⟨HS.out.call (below_at HB3.out _)⟩, ⟨Cells.box2 (Cells.nil _) rfl _ _ _⟩, ⟨(HN3.out.alloc _).lower (Nat.le_trans HS.out.lt (Nat.le_refl _))⟩, ⟨hneB HB3.out.size⟩⟩ | exact ⟨w2.heap.size, _, rfl, ⟨HS.out.call ((HB3.out.setCell (p := ⟨w2.heap.size, 0, none⟩) HB2.out.size _).setCell (p := ⟨w2.heap.size, 1, none⟩) HB2.out.size _)⟩, ⟨set2_cells ⟨k0, k1, f0, f1, hlt⟩⟩, ⟨(HN2b.out.below ((HB23.out.setCell (p := ⟨w2.heap.size, 0, none⟩) (Nat.le_refl _) _).setCell (p := ⟨w2.heap.size, 1, none⟩) (Nat.le_refl _) _)).lower (hlow (Nat.le_refl _))⟩, ⟨hneB (HB2.out.size)⟩⟩ | exact ⟨W.heap.size, _, rfl, ⟨HS.out.call ((HB3.out.setCell (p := ⟨W.heap.size, 0, none⟩) (Nat.le_refl _) _).setCell (p := ⟨W.heap.size, 1, none⟩) (Nat.le_refl _) _)⟩, ⟨set2_cells ⟨k0, k1, f0, f1, hlt⟩⟩, ⟨(((HN3.out.set (p := ⟨W.heap.size, 0, none⟩) (by simp) _).set (p := ⟨W.heap.size, 1, none⟩) (by simp) _)).lower (hlow (by simp))⟩, ⟨hneB ((Nat.le_refl _))⟩⟩ | skip)
    go_goals
  case rest =>
    obtain ⟨bb, u, e4, HS1, HC1, HN1, hbb⟩ := hcut
    subst e4
    obtain ⟨Au, cu, eu⟩ := HN1.out.slice
    subst eu
    have HSD := Lib.hid (HS1.out.call (below_drew (Below.refl _ _)))
    have HND := Lib.hid (HN1.out.below (below_drew (Below.refl _ _)))
    have HCD := Lib.hid (HC1.out.call (below_drew (Below.refl _ _)))
    have hbb' := hbb.out
    have hbb2 : w.heap.size + 1 ≠ bb := fun h => hbb.out h.symm
    clear HS
    go_wp2_with (fail)
    go_region_held3 (fun W' => W'.cell? ⟨w.heap.size, 2, none⟩ = some (.int .i64 y) ∧ W'.cell? ⟨bb, 0, none⟩ = some (.bool sg) ∧ W'.cell? ⟨bb, 1, none⟩ = some (.slice Au (limbs n).length cu))
      (first | exact ⟨HS5.out.cells.2.2.2.2.2.1, HC5.out.1, HC5.out.2.1⟩ | exact ⟨HSD.out.cells.2.2.2.2.2.1, HCD.out.1, HCD.out.2.1⟩ | go_keep)
      (first | (go_at_call 13; (refine (HDg.out _ _ HND.out.isNat).mono ?_); rintro e w5 ⟨rfl, hb⟩; have HS5 := Lib.hid (HSD.out.call hb); have HN5 := Lib.hid (HND.out.below hb); have HC5 := Lib.hid (HCD.out.call hb); obtain ⟨r0, r1, r2, s0, s1, s2, -⟩ := HS5.out.cells; obtain ⟨p0, p1, -⟩ := HC5.out; have f0 := HS5.out.free 0 (by omega); have f1 := HS5.out.free 1 (by omega); have f2 := HS5.out.free 2 (by omega); have hz := HS5.out.lt; clear hb))
    all_goals (go_wp2; exact bodyPost_ret (v := .tuple #[.agg #[.bool sg, .slice Au (limbs n).length cu, .int .i64 my], .bool true]) (by simp [results, Tryd.results29, go_sem, r0, r1, r2, f0, f1, f2, hz]) rfl ⟨_, rfl, (((HN5.out.set (p := ⟨w.heap.size + 1, 0, none⟩) (Nat.lt_succ_self _) _).set (p := ⟨w.heap.size + 1, 1, none⟩) (Nat.lt_succ_self _) _).set (p := ⟨w.heap.size + 1, 2, none⟩) (Nat.lt_succ_self _) _).lower (Nat.le_add_right _ _), ((HS5.out.below.setCell (p := ⟨w.heap.size + 1, 0, none⟩) (Nat.le_succ _) _).setCell (p := ⟨w.heap.size + 1, 1, none⟩) (Nat.le_succ _) _).setCell (p := ⟨w.heap.size + 1, 2, none⟩) (Nat.le_succ _) _⟩)

set_option maxHeartbeats 4000000 in
set_option maxRecDepth 100000 in
theorem ofFix_big (neg : Bool) (n : Nat) (y : Int) (w : World) (hn : n < 18446744073709551616) (hbig : 9999999999999999999 < n) :
    Calls Tryd.prog 29 #[.agg #[.bool neg, .int .u64 n, .int .i64 y]] w fun e w' => ∃ u, e = .returned (.tuple #[.agg #[.bool (neg && decide (0 < n)), u, .int .i64 (IntKind.i64.wrap (-y))], .bool false]) ∧ IsNew w' w.heap.size u n ∧ Below w.heap.size w w' := by
  have HF := Lib.hid (fun W => natFrom_new n W hn)
  have HW := Lib.hid (fun r W hr => wholeMk_any neg r n W hr)
  have hl3 := limbs_length 3 n (by omega)
  have HDg := Lib.hid (fun u W h => natDigits_any n u W h (by omega))
  rw [dg_decs] at HDg
  generalize (neg && decide (0 < n)) = sg at *
  obtain ⟨my, hmy⟩ : ∃ my, IntKind.i64.wrap (-y) = my := ⟨_, rfl⟩
  have hd19 : decide (((dg n : Nat) : Int) ≤ 19) = false := decide_eq_false (fun h => by have := (dg_le n 19).1 (by omega); have h2 : (n : Int) < (10 : Int) ^ 19 := this; omega)
  have hd19' : decide (dg n ≤ 19) = false := decide_eq_false (fun h => by have := (dg_le n 19).1 h; have h2 : (n : Int) < (10 : Int) ^ 19 := this; omega)
  clear hbig
  have HS : Hid (St w ((w.alloc (.cells #[.bool neg, .int .u64 n, .int .i64 y] 32)).alloc (.cells #[.bool false, .slice none 0 0, .int .i64 0] 40))
      [(w.heap.size + 1, 0, .bool false), (w.heap.size + 1, 1, .slice none 0 0), (w.heap.size + 1, 2, .int .i64 0), (w.heap.size, 0, .bool neg), (w.heap.size, 1, .int .u64 n), (w.heap.size, 2, .int .i64 y)] (w.heap.size + 1) 3) :=
    ⟨Cells.box3 (Cells.box3 (Cells.nil _) rfl _ _ _ _) (by simp) _ _ _ _, fun o _ => free_box (by simp) _ _ _, by simp, ((Below.refl _ _).alloc (Nat.le_refl _) _).alloc (by simp) _⟩
  have hne : w.heap.size + 1 ≠ w.heap.size := by omega
  rw [hmy]
  clear hn hl3
  go_enter Tryd.func29, Tryd.ntmps29
  go_wp2
  obtain ⟨W, hW⟩ : ∃ W, (w.alloc (.cells #[.bool neg, .int .u64 n, .int .i64 y] 32)).alloc (.cells #[.bool false, .slice none 0 0, .int .i64 0] 40) = W := ⟨_, rfl⟩
  rw [hW] at HS ⊢
  clear hW
  go_cut [4] from 5 (fun v4 wc => ∃ (bb : Nat) (u : Value), v4 = .pointer (some ⟨bb, 0, none⟩) ∧ Aside0 (St w wc [(w.heap.size + 1, 0, .bool false), (w.heap.size + 1, 1, .slice none 0 0), (w.heap.size + 1, 2, .int .i64 0), (w.heap.size, 0, .bool neg), (w.heap.size, 1, .int .u64 n), (w.heap.size, 2, .int .i64 y)] (w.heap.size + 1) 3) ∧ Aside0 (Cells wc [(bb, 0, .bool sg), (bb, 1, u)]) ∧ Aside0 (IsNew wc (w.heap.size + 2) u n) ∧ Aside0 (bb ≠ w.heap.size + 1))
  case first =>
    have HBD := Lib.hid (below_drew (Below.refl W.heap.size W))
    have hgr : w.heap.size + 2 ≤ W.heap.size := HS.out.lt
    have hlow : ∀ {q : Nat}, W.heap.size ≤ q → w.heap.size + 2 ≤ q := fun h => Nat.le_trans hgr h
    have hneB : ∀ {q : Nat}, W.heap.size ≤ q → q ≠ w.heap.size + 1 := fun h => by omega
    have hnr : W.heap.size ≠ w.heap.size := by omega
    obtain ⟨-, -, -, a0, a1, a2, -⟩ := HS.out.cells
    go_region_held3 (fun W' => W'.cell? ⟨w.heap.size, 0, none⟩ = some (.bool neg) ∧ W'.cell? ⟨w.heap.size, 1, none⟩ = some (.int .u64 n))
      (first | exact ⟨(HS.out.call (below_at HB3.out _)).cells.2.2.2.1, (HS.out.call (below_at HB3.out _)).cells.2.2.2.2.1⟩ | exact ⟨(HS.out.call HB3.out).cells.2.2.2.1, (HS.out.call HB3.out).cells.2.2.2.2.1⟩ | exact ⟨(HS.out.call HB2.out).cells.2.2.2.1, (HS.out.call HB2.out).cells.2.2.2.2.1⟩ | go_keep)
      (first | (go_at_call 11; go_must (refine (HF.out _).mono ?_); go_must (rintro r w2 ⟨vt, rfl, hn2, hb⟩); go_must (first | have HB2 := Lib.hid (below_by HBD.out hb) | (have HB2 := Lib.hid (below_by (below_drew (below_at (Below.refl W.heap.size W) _)) hb); have HC2 := Lib.hid (((C2.new W _ _ _).below (below_drew (Below.refl _ _))).below hb)) | (have HB2 := Lib.hid (below_by (below_at HBD.out _) hb); have HC2 := Lib.hid (made2' hb))); have HN2 := Lib.hid hn2; obtain ⟨A2, c2, rfl⟩ := hn2.slice; go_must (have hne2 : w2.heap.size ≠ w.heap.size := Nat.ne_of_gt (Nat.lt_of_lt_of_le (Nat.lt_of_lt_of_le (Nat.lt_add_of_pos_right (by decide)) hgr) HB2.out.size)); clear hn2 hb) | (go_at_call 62; (first | (with_reducible refine (HW.out _ _ HN2.out.isNat).mono ?_) | (with_reducible refine (HW.out _ _ (HN2.out.alloc _).isNat).mono ?_)); rintro r w3 ⟨rfl, hb⟩; (first | (have HB3 := Lib.hid (below_by HB2.out hb); have HN3 := Lib.hid (HN2.out.below hb); (first | have HC3 := HC2.out.below hb | skip)) | (have HB3 := Lib.hid (below_by (below_at HB2.out _) hb); have HN3 := Lib.hid ((HN2.out.alloc _).below hb); have HN2b := Lib.hid HN2.out; have HB23 := Lib.hid (below_by (below_at (Below.refl w2.heap.size w2) _) hb); have HC3 := made2' hb)); (try obtain ⟨k0, k1, f0, f1, hlt⟩ := HC3); have hne3 : w3.heap.size ≠ w.heap.size := Nat.ne_of_gt (Nat.lt_of_lt_of_le (Nat.lt_of_lt_of_le (Nat.lt_add_of_pos_right (by decide)) hgr) HB3.out.size); obtain ⟨t0, t1, t2, t3, t4, t5, -⟩ := (HS.out.call HB3.out).cells; clear hb))
    all_goals (go_wp2_with fail)
    all_goals go_meet
    all_goals (first | exact ⟨w3.heap.size, _, rfl, ⟨HS.out.call (below_at HB3.out _)⟩, ⟨Cells.box2 (Cells.nil _) rfl _ _ _⟩, ⟨(HN3.out.alloc _).lower (Nat.le_trans HS.out.lt (Nat.le_refl _))⟩, ⟨hneB HB3.out.size⟩⟩ | exact ⟨w2.heap.size, _, rfl, ⟨HS.out.call ((HB3.out.setCell (p := ⟨w2.heap.size, 0, none⟩) HB2.out.size _).setCell (p := ⟨w2.heap.size, 1, none⟩) HB2.out.size _)⟩, ⟨set2_cells ⟨k0, k1, f0, f1, hlt⟩⟩, ⟨(HN2b.out.below ((HB23.out.setCell (p := ⟨w2.heap.size, 0, none⟩) (Nat.le_refl _) _).setCell (p := ⟨w2.heap.size, 1, none⟩) (Nat.le_refl _) _)).lower (hlow (Nat.le_refl _))⟩, ⟨hneB (HB2.out.size)⟩⟩ | exact ⟨W.heap.size, _, rfl, ⟨HS.out.call ((HB3.out.setCell (p := ⟨W.heap.size, 0, none⟩) (Nat.le_refl _) _).setCell (p := ⟨W.heap.size, 1, none⟩) (Nat.le_refl _) _)⟩, ⟨set2_cells ⟨k0, k1, f0, f1, hlt⟩⟩, ⟨(((HN3.out.set (p := ⟨W.heap.size, 0, none⟩) (by simp) _).set (p := ⟨W.heap.size, 1, none⟩) (by simp) _)).lower (hlow (by simp))⟩, ⟨hneB ((Nat.le_refl _))⟩⟩ | skip)
    go_goals
  case rest =>
    obtain ⟨bb, u, e4, HS1, HC1, HN1, hbb⟩ := hcut
    subst e4
    obtain ⟨Au, cu, eu⟩ := HN1.out.slice
    subst eu
    have HSD := Lib.hid (HS1.out.call (below_drew (Below.refl _ _)))
    have HND := Lib.hid (HN1.out.below (below_drew (Below.refl _ _)))
    have HCD := Lib.hid (HC1.out.call (below_drew (Below.refl _ _)))
    have hbb' := hbb.out
    have hbb2 : w.heap.size + 1 ≠ bb := fun h => hbb.out h.symm
    clear HS
    go_wp2_with (fail)
    refine wp_region_held_drew (S := fun W' => W'.cell? ⟨w.heap.size, 2, none⟩ = some (.int .i64 y) ∧ W'.cell? ⟨bb, 0, none⟩ = some (.bool sg) ∧ W'.cell? ⟨bb, 1, none⟩ = some (.slice Au (limbs n).length cu)) (by kernel_rfl) ?s0 (fun hHeld => ?_)
    case s0 => exact ⟨HSD.out.cells.2.2.2.2.2.1, HCD.out.1, HCD.out.2.1⟩
    refine wpAnyH_take (i := 0) (v := ?v0) rfl (by kernel_rfl) (by decide +kernel) (by decide +kernel) (fun _ _ _ h => h) (Or.inl ⟨by rfl, ?y0⟩) (by assumption) ?r0
    case y0 => (intro w0 hSw; (try dsimp only at hSw); (try obtain ⟨q0, q1, q2⟩ := hSw); go_simp; (try with_reducible rfl))
    try simp only [List.getElem_toArray, List.getElem_cons_zero, List.getElem_cons_succ, Act.put, List.setIfInBounds_toArray, List.set_cons_zero, List.set_cons_succ]
    refine wpAnyH_take (i := 1) (v := ?v1) rfl (by kernel_rfl) (by decide +kernel) (by decide +kernel) (fun _ _ _ h => h) (Or.inl ⟨by rfl, ?y1⟩) (by assumption) ?r1
    case y1 => (intro w0 hSw; (try dsimp only at hSw); (try obtain ⟨q0, q1, q2⟩ := hSw); go_simp; (try with_reducible rfl))
    try simp only [List.getElem_toArray, List.getElem_cons_zero, List.getElem_cons_succ, Act.put, List.setIfInBounds_toArray, List.set_cons_zero, List.set_cons_succ]
    refine wpAnyH_take (i := 2) (v := ?v2) rfl (by kernel_rfl) (by decide +kernel) (by decide +kernel) (fun _ _ _ h => h) (Or.inl ⟨by rfl, ?y2⟩) (by assumption) ?r2
    case y2 => (intro w0 hSw; (try dsimp only at hSw); (try obtain ⟨q0, q1, q2⟩ := hSw); go_simp; (try with_reducible rfl))
    try simp only [List.getElem_toArray, List.getElem_cons_zero, List.getElem_cons_succ, Act.put, List.setIfInBounds_toArray, List.set_cons_zero, List.set_cons_succ]
    refine wpAnyH_take (i := 3) (v := ?v3) rfl (by kernel_rfl) (by decide +kernel) (by decide +kernel) (fun _ _ _ h => h) (Or.inl ⟨by rfl, ?y3⟩) (by assumption) ?r3
    case y3 => (intro w0 hSw; (try dsimp only at hSw); (try obtain ⟨q0, q1, q2⟩ := hSw); go_simp; (try with_reducible rfl))
    try simp only [List.getElem_toArray, List.getElem_cons_zero, List.getElem_cons_succ, Act.put, List.setIfInBounds_toArray, List.set_cons_zero, List.set_cons_succ]
    refine wpAnyH_take (i := 4) (v := ?v4) rfl (by kernel_rfl) (by decide +kernel) (by decide +kernel) (fun _ _ _ h => h) (Or.inl ⟨by rfl, ?y4⟩) (by assumption) ?r4
    case y4 => (intro w0 hSw; (try dsimp only at hSw); (try obtain ⟨q0, q1, q2⟩ := hSw); go_simp; (try with_reducible rfl))
    try simp only [List.getElem_toArray, List.getElem_cons_zero, List.getElem_cons_succ, Act.put, List.setIfInBounds_toArray, List.set_cons_zero, List.set_cons_succ]
    refine wpAnyH_take (i := 5) (v := ?v5) rfl (by kernel_rfl) (by decide +kernel) (by decide +kernel) (fun _ _ _ h => h) (Or.inl ⟨by rfl, ?y5⟩) (by assumption) ?r5
    case y5 => (intro w0 hSw; (try dsimp only at hSw); (try obtain ⟨q0, q1, q2⟩ := hSw); go_simp; (try with_reducible rfl))
    try simp only [List.getElem_toArray, List.getElem_cons_zero, List.getElem_cons_succ, Act.put, List.setIfInBounds_toArray, List.set_cons_zero, List.set_cons_succ]
    refine wpAnyH_take (i := 6) (v := ?v6) rfl (by kernel_rfl) (by decide +kernel) (by decide +kernel) (fun _ _ _ h => h) (Or.inl ⟨by rfl, ?y6⟩) (by assumption) ?r6
    case y6 => (intro w0 hSw; (try dsimp only at hSw); (try obtain ⟨q0, q1, q2⟩ := hSw); go_simp; (try with_reducible rfl))
    try simp only [List.getElem_toArray, List.getElem_cons_zero, List.getElem_cons_succ, Act.put, List.setIfInBounds_toArray, List.set_cons_zero, List.set_cons_succ]
    refine wpAnyH_ready (rs := [7]) (by decide +kernel) (by simp) ?_
    refine AllReadyH.cons rfl (fun K hK => ?_) AllReadyH.nil
    go_simp
    refine (HDg.out _ _ HND.out.isNat).mono ?_
    rintro e w5 ⟨rfl, hb⟩
    have HS5 := Lib.hid (HSD.out.call hb)
    have HN5 := Lib.hid (HND.out.below hb)
    have HC5 := Lib.hid (HCD.out.call hb)
    obtain ⟨r0, r1, r2, s0, s1, s2, -⟩ := HS5.out.cells
    obtain ⟨p0, p1, -⟩ := HC5.out
    have f0 := HS5.out.free 0 (by omega)
    have f1 := HS5.out.free 1 (by omega)
    have f2 := HS5.out.free 2 (by omega)
    have hz := HS5.out.lt
    clear hb
    go_wp2_with fail
    refine hK.out _ _ ⟨HS5.out.cells.2.2.2.2.2.1, HC5.out.1, HC5.out.2.1⟩ (fun hHeld => ?_)
    clear hK K
    try simp only [List.getElem_toArray, List.getElem_cons_zero, List.getElem_cons_succ, Act.put, List.setIfInBounds_toArray, List.set_cons_zero, List.set_cons_succ]
    refine wpAnyH_take (i := 8) (v := ?v8) rfl (by kernel_rfl) (by decide +kernel) (by decide +kernel) (fun _ _ _ h => h) (Or.inl ⟨by rfl, ?y8⟩) (by assumption) ?r8
    case y8 => (intro w0 hSw; (try dsimp only at hSw); (try obtain ⟨q0, q1, q2⟩ := hSw); go_simp; (try with_reducible rfl))
    try simp only [List.getElem_toArray, List.getElem_cons_zero, List.getElem_cons_succ, Act.put, List.setIfInBounds_toArray, List.set_cons_zero, List.set_cons_succ]
    refine wpAnyH_take (i := 9) (v := ?v9) rfl (by kernel_rfl) (by decide +kernel) (by decide +kernel) (fun _ _ _ h => h) (Or.inl ⟨by rfl, ?y9⟩) (by assumption) ?r9
    case y9 => (intro w0 hSw; (try dsimp only at hSw); (try obtain ⟨q0, q1, q2⟩ := hSw); go_simp; (try with_reducible rfl))
    try simp only [List.getElem_toArray, List.getElem_cons_zero, List.getElem_cons_succ, Act.put, List.setIfInBounds_toArray, List.set_cons_zero, List.set_cons_succ]
    refine wpAnyH_take (i := 10) (v := undef) rfl (by kernel_rfl) (by decide +kernel) (by decide +kernel) (fun _ _ _ h => h) (Or.inr ⟨by rfl, rfl⟩) (by assumption) ?r10
    try simp only [List.getElem_toArray, List.getElem_cons_zero, List.getElem_cons_succ, Act.put, List.setIfInBounds_toArray, List.set_cons_zero, List.set_cons_succ]
    refine wpAnyH_take (i := 11) (v := undef) rfl (by kernel_rfl) (by decide +kernel) (by decide +kernel) (fun _ _ _ h => h) (Or.inr ⟨by rfl, rfl⟩) (by assumption) ?r11
    try simp only [List.getElem_toArray, List.getElem_cons_zero, List.getElem_cons_succ, Act.put, List.setIfInBounds_toArray, List.set_cons_zero, List.set_cons_succ]
    refine wpAnyH_take (i := 12) (v := undef) rfl (by kernel_rfl) (by decide +kernel) (by decide +kernel) (fun _ _ _ h => h) (Or.inr ⟨by rfl, rfl⟩) (by assumption) ?r12
    try simp only [List.getElem_toArray, List.getElem_cons_zero, List.getElem_cons_succ, Act.put, List.setIfInBounds_toArray, List.set_cons_zero, List.set_cons_succ]
    refine wpAnyH_take (i := 13) (v := ?v13) rfl (by kernel_rfl) (by decide +kernel) (by decide +kernel) (fun _ _ _ h => h) (Or.inl ⟨by rfl, ?y13⟩) (by assumption) ?r13
    case y13 => (intro w0 hSw; (try dsimp only at hSw); (try obtain ⟨q0, q1, q2⟩ := hSw); go_simp; (try with_reducible rfl))
    try simp only [List.getElem_toArray, List.getElem_cons_zero, List.getElem_cons_succ, Act.put, List.setIfInBounds_toArray, List.set_cons_zero, List.set_cons_succ]
    refine wpAnyH_take (i := 14) (v := ?v14) rfl (by kernel_rfl) (by decide +kernel) (by decide +kernel) (fun _ _ _ h => h) (Or.inl ⟨by rfl, ?y14⟩) (by assumption) ?r14
    case y14 => (intro w0 hSw; (try dsimp only at hSw); (try obtain ⟨q0, q1, q2⟩ := hSw); go_simp; (try with_reducible rfl))
    try simp only [List.getElem_toArray, List.getElem_cons_zero, List.getElem_cons_succ, Act.put, List.setIfInBounds_toArray, List.set_cons_zero, List.set_cons_succ]
    refine wpAnyH_take (i := 15) (v := undef) rfl (by kernel_rfl) (by decide +kernel) (by decide +kernel) (fun _ _ _ h => h) (Or.inr ⟨by rfl, rfl⟩) (by assumption) ?r15
    try simp only [List.getElem_toArray, List.getElem_cons_zero, List.getElem_cons_succ, Act.put, List.setIfInBounds_toArray, List.set_cons_zero, List.set_cons_succ]
    refine wpAnyH_take (i := 16) (v := undef) rfl (by kernel_rfl) (by decide +kernel) (by decide +kernel) (fun _ _ _ h => h) (Or.inr ⟨by rfl, rfl⟩) (by assumption) ?r16
    try simp only [List.getElem_toArray, List.getElem_cons_zero, List.getElem_cons_succ, Act.put, List.setIfInBounds_toArray, List.set_cons_zero, List.set_cons_succ]
    refine wpAnyH_take (i := 17) (v := undef) rfl (by kernel_rfl) (by decide +kernel) (by decide +kernel) (fun _ _ _ h => h) (Or.inr ⟨by rfl, rfl⟩) (by assumption) ?r17
    try simp only [List.getElem_toArray, List.getElem_cons_zero, List.getElem_cons_succ, Act.put, List.setIfInBounds_toArray, List.set_cons_zero, List.set_cons_succ]
    refine wpAnyH_take (i := 18) (v := ?v18) rfl (by kernel_rfl) (by decide +kernel) (by decide +kernel) (fun _ _ _ h => h) (Or.inl ⟨by rfl, ?y18⟩) (by assumption) ?r18
    case y18 => (intro w0 hSw; (try dsimp only at hSw); (try obtain ⟨q0, q1, q2⟩ := hSw); go_simp; (try with_reducible rfl))
    try simp only [List.getElem_toArray, List.getElem_cons_zero, List.getElem_cons_succ, Act.put, List.setIfInBounds_toArray, List.set_cons_zero, List.set_cons_succ]
    refine wpAnyH_ready (rs := [19]) (by decide +kernel) (by simp) ?_
    refine AllReadyH.cons rfl (fun K hK => ?_) AllReadyH.nil
    go_simp
    refine hK.out _ _ ?sS (fun hHeld => ?_)
    case sS => ((try dsimp only); go_keep)
    clear hK K
    try simp only [List.getElem_toArray, List.getElem_cons_zero, List.getElem_cons_succ, Act.put, List.setIfInBounds_toArray, List.set_cons_zero, List.set_cons_succ]
    refine wpAnyH_take (i := 20) (v := ?v20) rfl (by kernel_rfl) (by decide +kernel) (by decide +kernel) (fun _ _ _ h => h) (Or.inl ⟨by rfl, ?y20⟩) (by assumption) ?r20
    case y20 => (intro w0 hSw; (try dsimp only at hSw); (try obtain ⟨q0, q1, q2⟩ := hSw); go_simp; (try with_reducible rfl))
    try simp only [List.getElem_toArray, List.getElem_cons_zero, List.getElem_cons_succ, Act.put, List.setIfInBounds_toArray, List.set_cons_zero, List.set_cons_succ]
    refine wpAnyH_done (by decide +kernel) ?_ _
    go_wp2
    exact bodyPost_ret (v := .tuple #[.agg #[.bool sg, .slice Au (limbs n).length cu, .int .i64 my], .bool false]) (by simp [results, Tryd.results29, go_sem, r0, r1, r2, f0, f1, f2, hz]) rfl ⟨_, rfl, (((HN5.out.set (p := ⟨w.heap.size + 1, 0, none⟩) (Nat.lt_succ_self _) _).set (p := ⟨w.heap.size + 1, 1, none⟩) (Nat.lt_succ_self _) _).set (p := ⟨w.heap.size + 1, 2, none⟩) (Nat.lt_succ_self _) _).lower (Nat.le_add_right _ _), ((HS5.out.below.setCell (p := ⟨w.heap.size + 1, 0, none⟩) (Nat.le_succ _) _).setCell (p := ⟨w.heap.size + 1, 1, none⟩) (Nat.le_succ _) _).setCell (p := ⟨w.heap.size + 1, 2, none⟩) (Nat.le_succ _) _⟩

set_option maxHeartbeats 4000000 in
set_option maxRecDepth 100000 in
theorem ofFix_low (neg : Bool) (n : Nat) (y : Int) (w : World) (hn : n < 18446744073709551616) (hn1 : n ≤ 9999999999999999999) (hy0 : y < 0) :
    Calls Tryd.prog 29 #[.agg #[.bool neg, .int .u64 n, .int .i64 y]] w fun e w' => ∃ u, e = .returned (.tuple #[.agg #[.bool (neg && decide (0 < n)), u, .int .i64 (IntKind.i64.wrap (-y))], .bool false]) ∧ IsNew w' w.heap.size u n ∧ Below w.heap.size w w' := by
  have HF := Lib.hid (fun W => natFrom_new n W hn)
  have HW := Lib.hid (fun r W hr => wholeMk_any neg r n W hr)
  have hl3 := limbs_length 3 n (by omega)
  have HDg := Lib.hid (fun u W h => natDigits_any n u W h (by omega))
  rw [dg_decs] at HDg
  generalize (neg && decide (0 < n)) = sg at *
  obtain ⟨my, hmy⟩ : ∃ my, IntKind.i64.wrap (-y) = my := ⟨_, rfl⟩
  have hd19 : decide (((dg n : Nat) : Int) ≤ 19) = true := decide_eq_true (by have := (dg_le n 19).2 (by show (n : Int) < (10 : Int) ^ 19; omega); omega)
  have hd19' : decide (dg n ≤ 19) = true := decide_eq_true (by have := (dg_le n 19).2 (by show (n : Int) < (10 : Int) ^ 19; omega); omega)
  have hy2 : decide ((0 : Int) ≤ y) = false := decide_eq_false (by omega)
  clear hn1 hy0
  have HS : Hid (St w ((w.alloc (.cells #[.bool neg, .int .u64 n, .int .i64 y] 32)).alloc (.cells #[.bool false, .slice none 0 0, .int .i64 0] 40))
      [(w.heap.size + 1, 0, .bool false), (w.heap.size + 1, 1, .slice none 0 0), (w.heap.size + 1, 2, .int .i64 0), (w.heap.size, 0, .bool neg), (w.heap.size, 1, .int .u64 n), (w.heap.size, 2, .int .i64 y)] (w.heap.size + 1) 3) :=
    ⟨Cells.box3 (Cells.box3 (Cells.nil _) rfl _ _ _ _) (by simp) _ _ _ _, fun o _ => free_box (by simp) _ _ _, by simp, ((Below.refl _ _).alloc (Nat.le_refl _) _).alloc (by simp) _⟩
  have hne : w.heap.size + 1 ≠ w.heap.size := by omega
  rw [hmy]
  clear hn hl3
  go_enter Tryd.func29, Tryd.ntmps29
  go_wp2
  obtain ⟨W, hW⟩ : ∃ W, (w.alloc (.cells #[.bool neg, .int .u64 n, .int .i64 y] 32)).alloc (.cells #[.bool false, .slice none 0 0, .int .i64 0] 40) = W := ⟨_, rfl⟩
  rw [hW] at HS ⊢
  clear hW
  go_cut [4] from 5 (fun v4 wc => ∃ (bb : Nat) (u : Value), v4 = .pointer (some ⟨bb, 0, none⟩) ∧ Aside0 (St w wc [(w.heap.size + 1, 0, .bool false), (w.heap.size + 1, 1, .slice none 0 0), (w.heap.size + 1, 2, .int .i64 0), (w.heap.size, 0, .bool neg), (w.heap.size, 1, .int .u64 n), (w.heap.size, 2, .int .i64 y)] (w.heap.size + 1) 3) ∧ Aside0 (Cells wc [(bb, 0, .bool sg), (bb, 1, u)]) ∧ Aside0 (IsNew wc (w.heap.size + 2) u n) ∧ Aside0 (bb ≠ w.heap.size + 1))
  case first =>
    have HBD := Lib.hid (below_drew (Below.refl W.heap.size W))
    have hgr : w.heap.size + 2 ≤ W.heap.size := HS.out.lt
    have hlow : ∀ {q : Nat}, W.heap.size ≤ q → w.heap.size + 2 ≤ q := fun h => Nat.le_trans hgr h
    have hneB : ∀ {q : Nat}, W.heap.size ≤ q → q ≠ w.heap.size + 1 := fun h => by omega
    have hnr : W.heap.size ≠ w.heap.size := by omega
    obtain ⟨-, -, -, a0, a1, a2, -⟩ := HS.out.cells
    go_region_held3 (fun W' => W'.cell? ⟨w.heap.size, 0, none⟩ = some (.bool neg) ∧ W'.cell? ⟨w.heap.size, 1, none⟩ = some (.int .u64 n))
      (first | exact ⟨(HS.out.call (below_at HB3.out _)).cells.2.2.2.1, (HS.out.call (below_at HB3.out _)).cells.2.2.2.2.1⟩ | exact ⟨(HS.out.call HB3.out).cells.2.2.2.1, (HS.out.call HB3.out).cells.2.2.2.2.1⟩ | exact ⟨(HS.out.call HB2.out).cells.2.2.2.1, (HS.out.call HB2.out).cells.2.2.2.2.1⟩ | go_keep)
      (first | (go_at_call 11; go_must (refine (HF.out _).mono ?_); go_must (rintro r w2 ⟨vt, rfl, hn2, hb⟩); go_must (first | have HB2 := Lib.hid (below_by HBD.out hb) | (have HB2 := Lib.hid (below_by (below_drew (below_at (Below.refl W.heap.size W) _)) hb); have HC2 := Lib.hid (((C2.new W _ _ _).below (below_drew (Below.refl _ _))).below hb)) | (have HB2 := Lib.hid (below_by (below_at HBD.out _) hb); have HC2 := Lib.hid (made2' hb))); have HN2 := Lib.hid hn2; obtain ⟨A2, c2, rfl⟩ := hn2.slice; go_must (have hne2 : w2.heap.size ≠ w.heap.size := Nat.ne_of_gt (Nat.lt_of_lt_of_le (Nat.lt_of_lt_of_le (Nat.lt_add_of_pos_right (by decide)) hgr) HB2.out.size)); clear hn2 hb) | (go_at_call 62; (first | (with_reducible refine (HW.out _ _ HN2.out.isNat).mono ?_) | (with_reducible refine (HW.out _ _ (HN2.out.alloc _).isNat).mono ?_)); rintro r w3 ⟨rfl, hb⟩; (first | (have HB3 := Lib.hid (below_by HB2.out hb); have HN3 := Lib.hid (HN2.out.below hb); (first | have HC3 := HC2.out.below hb | skip)) | (have HB3 := Lib.hid (below_by (below_at HB2.out _) hb); have HN3 := Lib.hid ((HN2.out.alloc _).below hb); have HN2b := Lib.hid HN2.out; have HB23 := Lib.hid (below_by (below_at (Below.refl w2.heap.size w2) _) hb); have HC3 := made2' hb)); (try obtain ⟨k0, k1, f0, f1, hlt⟩ := HC3); have hne3 : w3.heap.size ≠ w.heap.size := Nat.ne_of_gt (Nat.lt_of_lt_of_le (Nat.lt_of_lt_of_le (Nat.lt_add_of_pos_right (by decide)) hgr) HB3.out.size); obtain ⟨t0, t1, t2, t3, t4, t5, -⟩ := (HS.out.call HB3.out).cells; clear hb))
    all_goals (go_wp2_with fail)
    all_goals go_meet
    all_goals (first | exact ⟨w3.heap.size, _, rfl, ⟨HS.out.call (below_at HB3.out _)⟩, ⟨Cells.box2 (Cells.nil _) rfl _ _ _⟩, ⟨(HN3.out.alloc _).lower (Nat.le_trans HS.out.lt (Nat.le_refl _))⟩, ⟨hneB HB3.out.size⟩⟩ | exact ⟨w2.heap.size, _, rfl, ⟨HS.out.call ((HB3.out.setCell (p := ⟨w2.heap.size, 0, none⟩) HB2.out.size _).setCell (p := ⟨w2.heap.size, 1, none⟩) HB2.out.size _)⟩, ⟨set2_cells ⟨k0, k1, f0, f1, hlt⟩⟩, ⟨(HN2b.out.below ((HB23.out.setCell (p := ⟨w2.heap.size, 0, none⟩) (Nat.le_refl _) _).setCell (p := ⟨w2.heap.size, 1, none⟩) (Nat.le_refl _) _)).lower (hlow (Nat.le_refl _))⟩, ⟨hneB (HB2.out.size)⟩⟩ | exact ⟨W.heap.size, _, rfl, ⟨HS.out.call ((HB3.out.setCell (p := ⟨W.heap.size, 0, none⟩) (Nat.le_refl _) _).setCell (p := ⟨W.heap.size, 1, none⟩) (Nat.le_refl _) _)⟩, ⟨set2_cells ⟨k0, k1, f0, f1, hlt⟩⟩, ⟨(((HN3.out.set (p := ⟨W.heap.size, 0, none⟩) (by simp) _).set (p := ⟨W.heap.size, 1, none⟩) (by simp) _)).lower (hlow (by simp))⟩, ⟨hneB ((Nat.le_refl _))⟩⟩ | skip)
    go_goals
  case rest =>
    obtain ⟨bb, u, e4, HS1, HC1, HN1, hbb⟩ := hcut
    subst e4
    obtain ⟨Au, cu, eu⟩ := HN1.out.slice
    subst eu
    have HSD := Lib.hid (HS1.out.call (below_drew (Below.refl _ _)))
    have HND := Lib.hid (HN1.out.below (below_drew (Below.refl _ _)))
    have HCD := Lib.hid (HC1.out.call (below_drew (Below.refl _ _)))
    have hbb' := hbb.out
    have hbb2 : w.heap.size + 1 ≠ bb := fun h => hbb.out h.symm
    clear HS
    go_wp2_with (fail)
    refine wp_region_held_drew (S := fun W' => W'.cell? ⟨w.heap.size, 2, none⟩ = some (.int .i64 y) ∧ W'.cell? ⟨bb, 0, none⟩ = some (.bool sg) ∧ W'.cell? ⟨bb, 1, none⟩ = some (.slice Au (limbs n).length cu)) (by kernel_rfl) ?s0 (fun hHeld => ?_)
    case s0 => exact ⟨HSD.out.cells.2.2.2.2.2.1, HCD.out.1, HCD.out.2.1⟩
    refine wpAnyH_take (i := 0) (v := ?v0) rfl (by kernel_rfl) (by decide +kernel) (by decide +kernel) (fun _ _ _ h => h) (Or.inl ⟨by rfl, ?y0⟩) (by assumption) ?r0
    case y0 => (intro w0 hSw; (try dsimp only at hSw); (try obtain ⟨q0, q1, q2⟩ := hSw); go_simp; (try with_reducible rfl))
    try simp only [List.getElem_toArray, List.getElem_cons_zero, List.getElem_cons_succ, Act.put, List.setIfInBounds_toArray, List.set_cons_zero, List.set_cons_succ]
    refine wpAnyH_take (i := 1) (v := ?v1) rfl (by kernel_rfl) (by decide +kernel) (by decide +kernel) (fun _ _ _ h => h) (Or.inl ⟨by rfl, ?y1⟩) (by assumption) ?r1
    case y1 => (intro w0 hSw; (try dsimp only at hSw); (try obtain ⟨q0, q1, q2⟩ := hSw); go_simp; (try with_reducible rfl))
    try simp only [List.getElem_toArray, List.getElem_cons_zero, List.getElem_cons_succ, Act.put, List.setIfInBounds_toArray, List.set_cons_zero, List.set_cons_succ]
    refine wpAnyH_take (i := 2) (v := ?v2) rfl (by kernel_rfl) (by decide +kernel) (by decide +kernel) (fun _ _ _ h => h) (Or.inl ⟨by rfl, ?y2⟩) (by assumption) ?r2
    case y2 => (intro w0 hSw; (try dsimp only at hSw); (try obtain ⟨q0, q1, q2⟩ := hSw); go_simp; (try with_reducible rfl))
    try simp only [List.getElem_toArray, List.getElem_cons_zero, List.getElem_cons_succ, Act.put, List.setIfInBounds_toArray, List.set_cons_zero, List.set_cons_succ]
    refine wpAnyH_take (i := 3) (v := ?v3) rfl (by kernel_rfl) (by decide +kernel) (by decide +kernel) (fun _ _ _ h => h) (Or.inl ⟨by rfl, ?y3⟩) (by assumption) ?r3
    case y3 => (intro w0 hSw; (try dsimp only at hSw); (try obtain ⟨q0, q1, q2⟩ := hSw); go_simp; (try with_reducible rfl))
    try simp only [List.getElem_toArray, List.getElem_cons_zero, List.getElem_cons_succ, Act.put, List.setIfInBounds_toArray, List.set_cons_zero, List.set_cons_succ]
    refine wpAnyH_take (i := 4) (v := ?v4) rfl (by kernel_rfl) (by decide +kernel) (by decide +kernel) (fun _ _ _ h => h) (Or.inl ⟨by rfl, ?y4⟩) (by assumption) ?r4
    case y4 => (intro w0 hSw; (try dsimp only at hSw); (try obtain ⟨q0, q1, q2⟩ := hSw); go_simp; (try with_reducible rfl))
    try simp only [List.getElem_toArray, List.getElem_cons_zero, List.getElem_cons_succ, Act.put, List.setIfInBounds_toArray, List.set_cons_zero, List.set_cons_succ]
    refine wpAnyH_take (i := 5) (v := ?v5) rfl (by kernel_rfl) (by decide +kernel) (by decide +kernel) (fun _ _ _ h => h) (Or.inl ⟨by rfl, ?y5⟩) (by assumption) ?r5
    case y5 => (intro w0 hSw; (try dsimp only at hSw); (try obtain ⟨q0, q1, q2⟩ := hSw); go_simp; (try with_reducible rfl))
    try simp only [List.getElem_toArray, List.getElem_cons_zero, List.getElem_cons_succ, Act.put, List.setIfInBounds_toArray, List.set_cons_zero, List.set_cons_succ]
    refine wpAnyH_take (i := 6) (v := ?v6) rfl (by kernel_rfl) (by decide +kernel) (by decide +kernel) (fun _ _ _ h => h) (Or.inl ⟨by rfl, ?y6⟩) (by assumption) ?r6
    case y6 => (intro w0 hSw; (try dsimp only at hSw); (try obtain ⟨q0, q1, q2⟩ := hSw); go_simp; (try with_reducible rfl))
    try simp only [List.getElem_toArray, List.getElem_cons_zero, List.getElem_cons_succ, Act.put, List.setIfInBounds_toArray, List.set_cons_zero, List.set_cons_succ]
    refine wpAnyH_ready (rs := [7]) (by decide +kernel) (by simp) ?_
    refine AllReadyH.cons rfl (fun K hK => ?_) AllReadyH.nil
    go_simp
    refine (HDg.out _ _ HND.out.isNat).mono ?_
    rintro e w5 ⟨rfl, hb⟩
    have HS5 := Lib.hid (HSD.out.call hb)
    have HN5 := Lib.hid (HND.out.below hb)
    have HC5 := Lib.hid (HCD.out.call hb)
    obtain ⟨r0, r1, r2, s0, s1, s2, -⟩ := HS5.out.cells
    obtain ⟨p0, p1, -⟩ := HC5.out
    have f0 := HS5.out.free 0 (by omega)
    have f1 := HS5.out.free 1 (by omega)
    have f2 := HS5.out.free 2 (by omega)
    have hz := HS5.out.lt
    clear hb
    go_wp2_with fail
    refine hK.out _ _ ⟨HS5.out.cells.2.2.2.2.2.1, HC5.out.1, HC5.out.2.1⟩ (fun hHeld => ?_)
    clear hK K
    try simp only [List.getElem_toArray, List.getElem_cons_zero, List.getElem_cons_succ, Act.put, List.setIfInBounds_toArray, List.set_cons_zero, List.set_cons_succ]
    refine wpAnyH_take (i := 8) (v := ?v8) rfl (by kernel_rfl) (by decide +kernel) (by decide +kernel) (fun _ _ _ h => h) (Or.inl ⟨by rfl, ?y8⟩) (by assumption) ?r8
    case y8 => (intro w0 hSw; (try dsimp only at hSw); (try obtain ⟨q0, q1, q2⟩ := hSw); go_simp; (try with_reducible rfl))
    try simp only [List.getElem_toArray, List.getElem_cons_zero, List.getElem_cons_succ, Act.put, List.setIfInBounds_toArray, List.set_cons_zero, List.set_cons_succ]
    refine wpAnyH_take (i := 9) (v := ?v9) rfl (by kernel_rfl) (by decide +kernel) (by decide +kernel) (fun _ _ _ h => h) (Or.inl ⟨by rfl, ?y9⟩) (by assumption) ?r9
    case y9 => (intro w0 hSw; (try dsimp only at hSw); (try obtain ⟨q0, q1, q2⟩ := hSw); go_simp; (try with_reducible rfl))
    try simp only [List.getElem_toArray, List.getElem_cons_zero, List.getElem_cons_succ, Act.put, List.setIfInBounds_toArray, List.set_cons_zero, List.set_cons_succ]
    refine wpAnyH_take (i := 10) (v := ?v10) rfl (by kernel_rfl) (by decide +kernel) (by decide +kernel) (fun _ _ _ h => h) (Or.inl ⟨by rfl, ?y10⟩) (by assumption) ?r10
    case y10 => (intro w0 hSw; (try dsimp only at hSw); (try obtain ⟨q0, q1, q2⟩ := hSw); go_simp; (try with_reducible rfl))
    try simp only [List.getElem_toArray, List.getElem_cons_zero, List.getElem_cons_succ, Act.put, List.setIfInBounds_toArray, List.set_cons_zero, List.set_cons_succ]
    refine wpAnyH_take (i := 11) (v := ?v11) rfl (by kernel_rfl) (by decide +kernel) (by decide +kernel) (fun _ _ _ h => h) (Or.inl ⟨by rfl, ?y11⟩) (by assumption) ?r11
    case y11 => (intro w0 hSw; (try dsimp only at hSw); (try obtain ⟨q0, q1, q2⟩ := hSw); go_simp; (try with_reducible rfl))
    try simp only [List.getElem_toArray, List.getElem_cons_zero, List.getElem_cons_succ, Act.put, List.setIfInBounds_toArray, List.set_cons_zero, List.set_cons_succ]
    refine wpAnyH_take (i := 12) (v := ?v12) rfl (by kernel_rfl) (by decide +kernel) (by decide +kernel) (fun _ _ _ h => h) (Or.inl ⟨by rfl, ?y12⟩) (by assumption) ?r12
    case y12 => (intro w0 hSw; (try dsimp only at hSw); (try obtain ⟨q0, q1, q2⟩ := hSw); go_simp; (try with_reducible rfl))
    try simp only [List.getElem_toArray, List.getElem_cons_zero, List.getElem_cons_succ, Act.put, List.setIfInBounds_toArray, List.set_cons_zero, List.set_cons_succ]
    refine wpAnyH_take (i := 13) (v := ?v13) rfl (by kernel_rfl) (by decide +kernel) (by decide +kernel) (fun _ _ _ h => h) (Or.inl ⟨by rfl, ?y13⟩) (by assumption) ?r13
    case y13 => (intro w0 hSw; (try dsimp only at hSw); (try obtain ⟨q0, q1, q2⟩ := hSw); go_simp; (try with_reducible rfl))
    try simp only [List.getElem_toArray, List.getElem_cons_zero, List.getElem_cons_succ, Act.put, List.setIfInBounds_toArray, List.set_cons_zero, List.set_cons_succ]
    refine wpAnyH_take (i := 14) (v := ?v14) rfl (by kernel_rfl) (by decide +kernel) (by decide +kernel) (fun _ _ _ h => h) (Or.inl ⟨by rfl, ?y14⟩) (by assumption) ?r14
    case y14 => (intro w0 hSw; (try dsimp only at hSw); (try obtain ⟨q0, q1, q2⟩ := hSw); go_simp; (try with_reducible rfl))
    try simp only [List.getElem_toArray, List.getElem_cons_zero, List.getElem_cons_succ, Act.put, List.setIfInBounds_toArray, List.set_cons_zero, List.set_cons_succ]
    refine wpAnyH_take (i := 15) (v := undef) rfl (by kernel_rfl) (by decide +kernel) (by decide +kernel) (fun _ _ _ h => h) (Or.inr ⟨by rfl, rfl⟩) (by assumption) ?r15
    try simp only [List.getElem_toArray, List.getElem_cons_zero, List.getElem_cons_succ, Act.put, List.setIfInBounds_toArray, List.set_cons_zero, List.set_cons_succ]
    refine wpAnyH_take (i := 16) (v := undef) rfl (by kernel_rfl) (by decide +kernel) (by decide +kernel) (fun _ _ _ h => h) (Or.inr ⟨by rfl, rfl⟩) (by assumption) ?r16
    try simp only [List.getElem_toArray, List.getElem_cons_zero, List.getElem_cons_succ, Act.put, List.setIfInBounds_toArray, List.set_cons_zero, List.set_cons_succ]
    refine wpAnyH_take (i := 17) (v := undef) rfl (by kernel_rfl) (by decide +kernel) (by decide +kernel) (fun _ _ _ h => h) (Or.inr ⟨by rfl, rfl⟩) (by assumption) ?r17
    try simp only [List.getElem_toArray, List.getElem_cons_zero, List.getElem_cons_succ, Act.put, List.setIfInBounds_toArray, List.set_cons_zero, List.set_cons_succ]
    refine wpAnyH_take (i := 18) (v := ?v18) rfl (by kernel_rfl) (by decide +kernel) (by decide +kernel) (fun _ _ _ h => h) (Or.inl ⟨by rfl, ?y18⟩) (by assumption) ?r18
    case y18 => (intro w0 hSw; (try dsimp only at hSw); (try obtain ⟨q0, q1, q2⟩ := hSw); go_simp; (try with_reducible rfl))
    try simp only [List.getElem_toArray, List.getElem_cons_zero, List.getElem_cons_succ, Act.put, List.setIfInBounds_toArray, List.set_cons_zero, List.set_cons_succ]
    refine wpAnyH_ready (rs := [19]) (by decide +kernel) (by simp) ?_
    refine AllReadyH.cons rfl (fun K hK => ?_) AllReadyH.nil
    go_simp
    refine hK.out _ _ ?sS (fun hHeld => ?_)
    case sS => ((try dsimp only); go_keep)
    clear hK K
    try simp only [List.getElem_toArray, List.getElem_cons_zero, List.getElem_cons_succ, Act.put, List.setIfInBounds_toArray, List.set_cons_zero, List.set_cons_succ]
    refine wpAnyH_take (i := 20) (v := ?v20) rfl (by kernel_rfl) (by decide +kernel) (by decide +kernel) (fun _ _ _ h => h) (Or.inl ⟨by rfl, ?y20⟩) (by assumption) ?r20
    case y20 => (intro w0 hSw; (try dsimp only at hSw); (try obtain ⟨q0, q1, q2⟩ := hSw); go_simp; (try with_reducible rfl))
    try simp only [List.getElem_toArray, List.getElem_cons_zero, List.getElem_cons_succ, Act.put, List.setIfInBounds_toArray, List.set_cons_zero, List.set_cons_succ]
    refine wpAnyH_done (by decide +kernel) ?_ _
    go_wp2
    exact bodyPost_ret (v := .tuple #[.agg #[.bool sg, .slice Au (limbs n).length cu, .int .i64 my], .bool false]) (by simp [results, Tryd.results29, go_sem, r0, r1, r2, f0, f1, f2, hz]) rfl ⟨_, rfl, (((HN5.out.set (p := ⟨w.heap.size + 1, 0, none⟩) (Nat.lt_succ_self _) _).set (p := ⟨w.heap.size + 1, 1, none⟩) (Nat.lt_succ_self _) _).set (p := ⟨w.heap.size + 1, 2, none⟩) (Nat.lt_succ_self _) _).lower (Nat.le_add_right _ _), ((HS5.out.below.setCell (p := ⟨w.heap.size + 1, 0, none⟩) (Nat.le_succ _) _).setCell (p := ⟨w.heap.size + 1, 1, none⟩) (Nat.le_succ _) _).setCell (p := ⟨w.heap.size + 1, 2, none⟩) (Nat.le_succ _) _⟩

set_option maxHeartbeats 4000000 in
set_option maxRecDepth 100000 in
theorem ofFix_high (neg : Bool) (n : Nat) (y : Int) (w : World) (hn : n < 18446744073709551616) (hn1 : n ≤ 9999999999999999999) (hy0 : 19 < y) :
    Calls Tryd.prog 29 #[.agg #[.bool neg, .int .u64 n, .int .i64 y]] w fun e w' => ∃ u, e = .returned (.tuple #[.agg #[.bool (neg && decide (0 < n)), u, .int .i64 (IntKind.i64.wrap (-y))], .bool false]) ∧ IsNew w' w.heap.size u n ∧ Below w.heap.size w w' := by
  have HF := Lib.hid (fun W => natFrom_new n W hn)
  have HW := Lib.hid (fun r W hr => wholeMk_any neg r n W hr)
  have hl3 := limbs_length 3 n (by omega)
  have HDg := Lib.hid (fun u W h => natDigits_any n u W h (by omega))
  rw [dg_decs] at HDg
  generalize (neg && decide (0 < n)) = sg at *
  obtain ⟨my, hmy⟩ : ∃ my, IntKind.i64.wrap (-y) = my := ⟨_, rfl⟩
  have hd19 : decide (((dg n : Nat) : Int) ≤ 19) = true := decide_eq_true (by have := (dg_le n 19).2 (by show (n : Int) < (10 : Int) ^ 19; omega); omega)
  have hd19' : decide (dg n ≤ 19) = true := decide_eq_true (by have := (dg_le n 19).2 (by show (n : Int) < (10 : Int) ^ 19; omega); omega)
  have hy2 : decide ((0 : Int) ≤ y) = true := decide_eq_true (by omega)
  have hy3 : decide (y ≤ 19) = false := decide_eq_false (by omega)
  clear hn1 hy0
  have HS : Hid (St w ((w.alloc (.cells #[.bool neg, .int .u64 n, .int .i64 y] 32)).alloc (.cells #[.bool false, .slice none 0 0, .int .i64 0] 40))
      [(w.heap.size + 1, 0, .bool false), (w.heap.size + 1, 1, .slice none 0 0), (w.heap.size + 1, 2, .int .i64 0), (w.heap.size, 0, .bool neg), (w.heap.size, 1, .int .u64 n), (w.heap.size, 2, .int .i64 y)] (w.heap.size + 1) 3) :=
    ⟨Cells.box3 (Cells.box3 (Cells.nil _) rfl _ _ _ _) (by simp) _ _ _ _, fun o _ => free_box (by simp) _ _ _, by simp, ((Below.refl _ _).alloc (Nat.le_refl _) _).alloc (by simp) _⟩
  have hne : w.heap.size + 1 ≠ w.heap.size := by omega
  rw [hmy]
  clear hn hl3
  go_enter Tryd.func29, Tryd.ntmps29
  go_wp2
  obtain ⟨W, hW⟩ : ∃ W, (w.alloc (.cells #[.bool neg, .int .u64 n, .int .i64 y] 32)).alloc (.cells #[.bool false, .slice none 0 0, .int .i64 0] 40) = W := ⟨_, rfl⟩
  rw [hW] at HS ⊢
  clear hW
  go_cut [4] from 5 (fun v4 wc => ∃ (bb : Nat) (u : Value), v4 = .pointer (some ⟨bb, 0, none⟩) ∧ Aside0 (St w wc [(w.heap.size + 1, 0, .bool false), (w.heap.size + 1, 1, .slice none 0 0), (w.heap.size + 1, 2, .int .i64 0), (w.heap.size, 0, .bool neg), (w.heap.size, 1, .int .u64 n), (w.heap.size, 2, .int .i64 y)] (w.heap.size + 1) 3) ∧ Aside0 (Cells wc [(bb, 0, .bool sg), (bb, 1, u)]) ∧ Aside0 (IsNew wc (w.heap.size + 2) u n) ∧ Aside0 (bb ≠ w.heap.size + 1))
  case first =>
    have HBD := Lib.hid (below_drew (Below.refl W.heap.size W))
    have hgr : w.heap.size + 2 ≤ W.heap.size := HS.out.lt
    have hlow : ∀ {q : Nat}, W.heap.size ≤ q → w.heap.size + 2 ≤ q := fun h => Nat.le_trans hgr h
    have hneB : ∀ {q : Nat}, W.heap.size ≤ q → q ≠ w.heap.size + 1 := fun h => by omega
    have hnr : W.heap.size ≠ w.heap.size := by omega
    obtain ⟨-, -, -, a0, a1, a2, -⟩ := HS.out.cells
    go_region_held3 (fun W' => W'.cell? ⟨w.heap.size, 0, none⟩ = some (.bool neg) ∧ W'.cell? ⟨w.heap.size, 1, none⟩ = some (.int .u64 n))
      (first | exact ⟨(HS.out.call (below_at HB3.out _)).cells.2.2.2.1, (HS.out.call (below_at HB3.out _)).cells.2.2.2.2.1⟩ | exact ⟨(HS.out.call HB3.out).cells.2.2.2.1, (HS.out.call HB3.out).cells.2.2.2.2.1⟩ | exact ⟨(HS.out.call HB2.out).cells.2.2.2.1, (HS.out.call HB2.out).cells.2.2.2.2.1⟩ | go_keep)
      (first | (go_at_call 11; go_must (refine (HF.out _).mono ?_); go_must (rintro r w2 ⟨vt, rfl, hn2, hb⟩); go_must (first | have HB2 := Lib.hid (below_by HBD.out hb) | (have HB2 := Lib.hid (below_by (below_drew (below_at (Below.refl W.heap.size W) _)) hb); have HC2 := Lib.hid (((C2.new W _ _ _).below (below_drew (Below.refl _ _))).below hb)) | (have HB2 := Lib.hid (below_by (below_at HBD.out _) hb); have HC2 := Lib.hid (made2' hb))); have HN2 := Lib.hid hn2; obtain ⟨A2, c2, rfl⟩ := hn2.slice; go_must (have hne2 : w2.heap.size ≠ w.heap.size := Nat.ne_of_gt (Nat.lt_of_lt_of_le (Nat.lt_of_lt_of_le (Nat.lt_add_of_pos_right (by decide)) hgr) HB2.out.size)); clear hn2 hb) | (go_at_call 62; (first | (with_reducible refine (HW.out _ _ HN2.out.isNat).mono ?_) | (with_reducible refine (HW.out _ _ (HN2.out.alloc _).isNat).mono ?_)); rintro r w3 ⟨rfl, hb⟩; (first | (have HB3 := Lib.hid (below_by HB2.out hb); have HN3 := Lib.hid (HN2.out.below hb); (first | have HC3 := HC2.out.below hb | skip)) | (have HB3 := Lib.hid (below_by (below_at HB2.out _) hb); have HN3 := Lib.hid ((HN2.out.alloc _).below hb); have HN2b := Lib.hid HN2.out; have HB23 := Lib.hid (below_by (below_at (Below.refl w2.heap.size w2) _) hb); have HC3 := made2' hb)); (try obtain ⟨k0, k1, f0, f1, hlt⟩ := HC3); have hne3 : w3.heap.size ≠ w.heap.size := Nat.ne_of_gt (Nat.lt_of_lt_of_le (Nat.lt_of_lt_of_le (Nat.lt_add_of_pos_right (by decide)) hgr) HB3.out.size); obtain ⟨t0, t1, t2, t3, t4, t5, -⟩ := (HS.out.call HB3.out).cells; clear hb))
    all_goals (go_wp2_with fail)
    all_goals go_meet
    all_goals (first | exact ⟨w3.heap.size, _, rfl, ⟨HS.out.call (below_at HB3.out _)⟩, ⟨Cells.box2 (Cells.nil _) rfl _ _ _⟩, ⟨(HN3.out.alloc _).lower (Nat.le_trans HS.out.lt (Nat.le_refl _))⟩, ⟨hneB HB3.out.size⟩⟩ | exact ⟨w2.heap.size, _, rfl, ⟨HS.out.call ((HB3.out.setCell (p := ⟨w2.heap.size, 0, none⟩) HB2.out.size _).setCell (p := ⟨w2.heap.size, 1, none⟩) HB2.out.size _)⟩, ⟨set2_cells ⟨k0, k1, f0, f1, hlt⟩⟩, ⟨(HN2b.out.below ((HB23.out.setCell (p := ⟨w2.heap.size, 0, none⟩) (Nat.le_refl _) _).setCell (p := ⟨w2.heap.size, 1, none⟩) (Nat.le_refl _) _)).lower (hlow (Nat.le_refl _))⟩, ⟨hneB (HB2.out.size)⟩⟩ | exact ⟨W.heap.size, _, rfl, ⟨HS.out.call ((HB3.out.setCell (p := ⟨W.heap.size, 0, none⟩) (Nat.le_refl _) _).setCell (p := ⟨W.heap.size, 1, none⟩) (Nat.le_refl _) _)⟩, ⟨set2_cells ⟨k0, k1, f0, f1, hlt⟩⟩, ⟨(((HN3.out.set (p := ⟨W.heap.size, 0, none⟩) (by simp) _).set (p := ⟨W.heap.size, 1, none⟩) (by simp) _)).lower (hlow (by simp))⟩, ⟨hneB ((Nat.le_refl _))⟩⟩ | skip)
    go_goals
  case rest =>
    obtain ⟨bb, u, e4, HS1, HC1, HN1, hbb⟩ := hcut
    subst e4
    obtain ⟨Au, cu, eu⟩ := HN1.out.slice
    subst eu
    have HSD := Lib.hid (HS1.out.call (below_drew (Below.refl _ _)))
    have HND := Lib.hid (HN1.out.below (below_drew (Below.refl _ _)))
    have HCD := Lib.hid (HC1.out.call (below_drew (Below.refl _ _)))
    have hbb' := hbb.out
    have hbb2 : w.heap.size + 1 ≠ bb := fun h => hbb.out h.symm
    clear HS
    go_wp2_with (fail)
    go_region_held3 (fun W' => W'.cell? ⟨w.heap.size, 2, none⟩ = some (.int .i64 y) ∧ W'.cell? ⟨bb, 0, none⟩ = some (.bool sg) ∧ W'.cell? ⟨bb, 1, none⟩ = some (.slice Au (limbs n).length cu))
      (first | exact ⟨HS5.out.cells.2.2.2.2.2.1, HC5.out.1, HC5.out.2.1⟩ | exact ⟨HSD.out.cells.2.2.2.2.2.1, HCD.out.1, HCD.out.2.1⟩ | go_keep)
      (first | (go_at_call 13; (refine (HDg.out _ _ HND.out.isNat).mono ?_); rintro e w5 ⟨rfl, hb⟩; have HS5 := Lib.hid (HSD.out.call hb); have HN5 := Lib.hid (HND.out.below hb); have HC5 := Lib.hid (HCD.out.call hb); obtain ⟨r0, r1, r2, s0, s1, s2, -⟩ := HS5.out.cells; obtain ⟨p0, p1, -⟩ := HC5.out; have f0 := HS5.out.free 0 (by omega); have f1 := HS5.out.free 1 (by omega); have f2 := HS5.out.free 2 (by omega); have hz := HS5.out.lt; clear hb))
    all_goals (go_wp2; exact bodyPost_ret (v := .tuple #[.agg #[.bool sg, .slice Au (limbs n).length cu, .int .i64 my], .bool false]) (by simp [results, Tryd.results29, go_sem, r0, r1, r2, f0, f1, f2, hz]) rfl ⟨_, rfl, (((HN5.out.set (p := ⟨w.heap.size + 1, 0, none⟩) (Nat.lt_succ_self _) _).set (p := ⟨w.heap.size + 1, 1, none⟩) (Nat.lt_succ_self _) _).set (p := ⟨w.heap.size + 1, 2, none⟩) (Nat.lt_succ_self _) _).lower (Nat.le_add_right _ _), ((HS5.out.below.setCell (p := ⟨w.heap.size + 1, 0, none⟩) (Nat.le_succ _) _).setCell (p := ⟨w.heap.size + 1, 1, none⟩) (Nat.le_succ _) _).setCell (p := ⟨w.heap.size + 1, 2, none⟩) (Nat.le_succ _) _⟩)

end Go.Proofs.YthkmgjkajllemaaDoor.Spec

/- ZzMake and fixed: a decimal of govalues is made of parts that are ones. -/
namespace Go.Proofs.YthkmgjkajllemaaDoor.Spec
open Go.RowKit Go.Proofs.YthkmgjkajllemaaDoorW.PrintWords Go.Proofs.YthkmgjkajllemaaDoor.Make
set_option linter.unusedVariables false
set_option linter.unusedSimpArgs false

theorem zzMake_ok (neg : Bool) (n s : Nat) (w : World) (hs : s ≤ 19) (hn : n ≤ 9999999999999999999) :
    Calls Tryd.prog 84 #[.bool neg, .int .u64 n, .int .i64 s] w fun e w' => e = .returned (.tuple #[.agg #[.bool (neg && decide (0 < n)), .int .i8 s, .int .u64 n], .nilIface]) ∧ Below w.heap.size w w' := by
  have HM := Lib.hid (fun W => newSafe_ok neg n s W hs hn)
  generalize (neg && decide (0 < n)) = b at HM ⊢
  have HS : Hid (St w (w.alloc (.cells #[.bool false, .int .i8 0, .int .u64 0] 74))
      [(w.heap.size, 0, .bool false), (w.heap.size, 1, .int .i8 0), (w.heap.size, 2, .int .u64 0)] w.heap.size 3) :=
    ⟨Cells.box3 (Cells.nil _) rfl _ _ _ _, fun o _ => free_box rfl _ _ _, by simp, (Below.refl _ _).alloc (Nat.le_refl _) _⟩
  clear hs hn
  go_enter Tryd.func84, Tryd.ntmps84
  go_wp2_with (first | (go_at_call 80; go_must (refine (HM.out _).mono ?_); rintro e w2 ⟨rfl, hb⟩; have HS2 := Lib.hid (HS.out.call hb); obtain ⟨d0, d1, d2, -⟩ := HS2.out.cells; have f0 := HS2.out.free 0 (by omega); have f1 := HS2.out.free 1 (by omega); have f2 := HS2.out.free 2 (by omega); have hz := HS2.out.lt; clear hb))
  exact bodyPost_ret (v := .tuple #[.agg #[.bool b, .int .i8 s, .int .u64 n], .nilIface]) (by simp [results, Tryd.results84, go_sem, d0, d1, d2, f0, f1, f2, hz]) rfl ⟨rfl, ((HS2.out.below.setCell (p := ⟨w.heap.size, 0, none⟩) (Nat.le_refl _) _).setCell (p := ⟨w.heap.size, 1, none⟩) (Nat.le_refl _) _).setCell (p := ⟨w.heap.size, 2, none⟩) (Nat.le_refl _) _⟩

set_option maxHeartbeats 1000000 in
theorem fixed_ok (neg : Bool) (n s : Nat) (w : World) (hs : s ≤ 19) (hn : n ≤ 9999999999999999999) :
    Calls Tryd.prog 48 #[.agg #[.bool neg, .int .u64 n, .int .i64 s]] w fun e w' => e = .returned (.tuple #[.agg #[.bool (neg && decide (0 < n)), .int .i8 s, .int .u64 n], .bool true]) ∧ Below w.heap.size w w' := by
  have HM := Lib.hid (fun W => zzMake_ok neg n s W hs hn)
  generalize (neg && decide (0 < n)) = b at HM ⊢
  have HS : Hid (St w ((w.alloc (.cells #[.bool neg, .int .u64 n, .int .i64 s] 32)).alloc (.cells #[.bool false, .int .i8 0, .int .u64 0] 74))
      [(w.heap.size + 1, 0, .bool false), (w.heap.size + 1, 1, .int .i8 0), (w.heap.size + 1, 2, .int .u64 0), (w.heap.size, 0, .bool neg), (w.heap.size, 1, .int .u64 n), (w.heap.size, 2, .int .i64 s)] (w.heap.size + 1) 3) :=
    ⟨Cells.box3 (Cells.box3 (Cells.nil _) rfl _ _ _ _) (by simp) _ _ _ _, fun o _ => free_box (by simp) _ _ _, by simp, ((Below.refl _ _).alloc (Nat.le_refl _) _).alloc (by simp) _⟩
  clear hs hn
  go_enter Tryd.func48, Tryd.ntmps48
  go_wp2_with (first | (go_at_call 84; go_must (refine (HM.out _).mono ?_); rintro e w2 ⟨rfl, hb⟩; have HS2 := Lib.hid (HS.out.call hb); have HL := Lib.hid HS2.out.lt; clear hb))
  have hne : w.heap.size + 1 ≠ w2.heap.size := by have := HL.out; omega
  obtain ⟨W, hW⟩ : ∃ W, w2.alloc (.cells #[.bool b, .int .i8 s, .int .u64 n] 74) = W := ⟨_, rfl⟩
  have HS3 := Lib.hid (HS2.out.call ((Below.refl _ _).alloc (Nat.le_refl _) (.cells #[.bool b, .int .i8 s, .int .u64 n] 74)))
  have HC3 : Hid (Cells (w2.alloc (.cells #[.bool b, .int .i8 s, .int .u64 n] 74)) [(w2.heap.size, 0, .bool b), (w2.heap.size, 1, .int .i8 s), (w2.heap.size, 2, .int .u64 n)]) := Cells.box3 (Cells.nil _) rfl _ _ _ _
  rw [hW] at HS3 HC3 ⊢
  clear hW
  obtain ⟨d0, d1, d2, -⟩ := HS3.out.cells
  have f0 := HS3.out.free 0 (by omega)
  have f1 := HS3.out.free 1 (by omega)
  have f2 := HS3.out.free 2 (by omega)
  have hz := HS3.out.lt
  obtain ⟨k0, k1, k2, -⟩ := HC3.out
  go_region_held3 (fun W' => W'.cell? ⟨w2.heap.size, 0, none⟩ = some (.bool b) ∧ W'.cell? ⟨w2.heap.size, 1, none⟩ = some (.int .i8 s) ∧ W'.cell? ⟨w2.heap.size, 2, none⟩ = some (.int .u64 n)) (go_keep) (fail)
  all_goals (go_wp2; exact bodyPost_ret (v := .tuple #[.agg #[.bool b, .int .i8 s, .int .u64 n], .bool true]) (by simp [results, Tryd.results48, go_sem, d0, d1, d2, f0, f1, f2, hz]) rfl ⟨rfl, (((below_drew HS3.out.below).setCell (p := ⟨w.heap.size + 1, 0, none⟩) (Nat.le_succ _) _).setCell (p := ⟨w.heap.size + 1, 1, none⟩) (Nat.le_succ _) _).setCell (p := ⟨w.heap.size + 1, 2, none⟩) (Nat.le_succ _) _⟩)
end Go.Proofs.YthkmgjkajllemaaDoor.Spec

/- 0 and the unit in the last place of a decimal of govalues. -/
namespace Go.Proofs.YthkmgjkajllemaaDoor.Spec
open Go.RowKit Go.Proofs.YthkmgjkajllemaaDoorW.PrintWords Go.Proofs.YthkmgjkajllemaaDoor.Make
set_option linter.unusedVariables false
set_option linter.unusedSimpArgs false

theorem scale_any (b : Bool) (s n : Nat) (w : World) (hs : s ≤ 19) :
    Calls Tryd.prog 83 #[.agg #[.bool b, .int .i8 s, .int .u64 n]] w fun e w' => e = .returned (.int .i64 s) ∧ Below w.heap.size w w' := by
  have hw : IntKind.i64.wrap (s : Int) = (s : Int) := IntWalk.i64_in _ (by omega)
  go_enter Tryd.func83, Tryd.ntmps83
  go_wp2
  go_ret
  exact ⟨rfl, (Below.refl _ _).alloc (Nat.le_refl _) _⟩

theorem zero_any (b : Bool) (s n : Nat) (w : World) (hs : s ≤ 19) :
    Calls Tryd.prog 49 #[.agg #[.bool b, .int .i8 s, .int .u64 n]] w fun e w' => e = .returned (.agg #[.bool false, .int .i8 s, .int .u64 0]) ∧ Below w.heap.size w w' := by
  have HC := Lib.hid (fun W => scale_any b s n W hs)
  have HU := Lib.hid (fun W => newUnsafe_any false 0 s W hs)
  rw [show ((0 : Nat) : Int) = 0 from rfl, show (false && decide (0 < 0)) = false from rfl] at HU
  have HS : Hid (St w ((w.alloc (.cells #[.bool b, .int .i8 s, .int .u64 n] 74)).alloc (.cells #[.bool false, .int .i8 0, .int .u64 0] 74))
      [(w.heap.size + 1, 0, .bool false), (w.heap.size + 1, 1, .int .i8 0), (w.heap.size + 1, 2, .int .u64 0)] (w.heap.size + 1) 3) :=
    ⟨Cells.box3 (Cells.nil _) (by simp) _ _ _ _, fun o _ => free_box (by simp) _ _ _, by simp, ((Below.refl _ _).alloc (Nat.le_refl _) _).alloc (by simp) _⟩
  clear hs
  go_enter Tryd.func49, Tryd.ntmps49
  go_wp2_with (first | (go_at_call 83; go_must (refine (HC.out _).mono ?_); rintro e w2 ⟨rfl, hb⟩; have HS2 := Lib.hid (HS.out.call hb); clear hb) | (go_at_call 85; go_must (refine (HU.out _).mono ?_); rintro e w3 ⟨rfl, hb⟩; have HS3 := Lib.hid (HS2.out.call hb); obtain ⟨d0, d1, d2, -⟩ := HS3.out.cells; have f0 := HS3.out.free 0 (by omega); have f1 := HS3.out.free 1 (by omega); have f2 := HS3.out.free 2 (by omega); have hz := HS3.out.lt; clear hb))
  exact bodyPost_ret (v := .agg #[.bool false, .int .i8 s, .int .u64 0]) (by simp [results, Tryd.results49, go_sem, d0, d1, d2, f0, f1, f2, hz]) rfl ⟨rfl, ((HS3.out.below.setCell (p := ⟨w.heap.size + 1, 0, none⟩) (Nat.le_succ _) _).setCell (p := ⟨w.heap.size + 1, 1, none⟩) (Nat.le_succ _) _).setCell (p := ⟨w.heap.size + 1, 2, none⟩) (Nat.le_succ _) _⟩

theorem ulp_any (b : Bool) (s n : Nat) (w : World) (hs : s ≤ 19) :
    Calls Tryd.prog 53 #[.agg #[.bool b, .int .i8 s, .int .u64 n]] w fun e w' => e = .returned (.agg #[.bool false, .int .i8 s, .int .u64 1]) ∧ Below w.heap.size w w' := by
  have HC := Lib.hid (fun W => scale_any b s n W hs)
  have HU := Lib.hid (fun W => newUnsafe_any false 1 s W hs)
  rw [show ((1 : Nat) : Int) = 1 from rfl, show (false && decide (0 < 1)) = false from rfl] at HU
  have HS : Hid (St w ((w.alloc (.cells #[.bool b, .int .i8 s, .int .u64 n] 74)).alloc (.cells #[.bool false, .int .i8 0, .int .u64 0] 74))
      [(w.heap.size + 1, 0, .bool false), (w.heap.size + 1, 1, .int .i8 0), (w.heap.size + 1, 2, .int .u64 0)] (w.heap.size + 1) 3) :=
    ⟨Cells.box3 (Cells.nil _) (by simp) _ _ _ _, fun o _ => free_box (by simp) _ _ _, by simp, ((Below.refl _ _).alloc (Nat.le_refl _) _).alloc (by simp) _⟩
  clear hs
  go_enter Tryd.func53, Tryd.ntmps53
  go_wp2_with (first | (go_at_call 83; go_must (refine (HC.out _).mono ?_); rintro e w2 ⟨rfl, hb⟩; have HS2 := Lib.hid (HS.out.call hb); clear hb) | (go_at_call 85; go_must (refine (HU.out _).mono ?_); rintro e w3 ⟨rfl, hb⟩; have HS3 := Lib.hid (HS2.out.call hb); obtain ⟨d0, d1, d2, -⟩ := HS3.out.cells; have f0 := HS3.out.free 0 (by omega); have f1 := HS3.out.free 1 (by omega); have f2 := HS3.out.free 2 (by omega); have hz := HS3.out.lt; clear hb))
  exact bodyPost_ret (v := .agg #[.bool false, .int .i8 s, .int .u64 1]) (by simp [results, Tryd.results53, go_sem, d0, d1, d2, f0, f1, f2, hz]) rfl ⟨rfl, ((HS3.out.below.setCell (p := ⟨w.heap.size + 1, 0, none⟩) (Nat.le_succ _) _).setCell (p := ⟨w.heap.size + 1, 1, none⟩) (Nat.le_succ _) _).setCell (p := ⟨w.heap.size + 1, 2, none⟩) (Nat.le_succ _) _⟩
end Go.Proofs.YthkmgjkajllemaaDoor.Spec

/- Frac.Round of a whole number. -/
namespace Go.Proofs.YthkmgjkajllemaaDoor.Spec
open Go.RowKit Go.Proofs.YthkmgjkajllemaaDoorW.PrintWords Go.Proofs.YthkmgjkajllemaaDoor.Num Go.Proofs.YthkmgjkajllemaaDoor.Str Go.Proofs.YthkmgjkajllemaaDoor.Nats Go.Proofs.YthkmgjkajllemaaDoor.Val Go.Proofs.YthkmgjkajllemaaDoor.Arith Go.Proofs.YthkmgjkajllemaaDoor.NatOps Go.Proofs.YthkmgjkajllemaaDoor.Make
set_option linter.unusedVariables false
set_option linter.unusedSimpArgs false

set_option maxHeartbeats 2000000 in
set_option maxRecDepth 100000 in
/-- Frac.Round of m / 1, which is not 0, to s places: exact. -/
theorem round_whole (m s : Nat) (way : Int) (u v : Value) (w : World) (hu : IsNat w u m) (hv : IsNat w v 1) (hm : 0 < m) (hml : (limbs m).length < 1000) (hs : s < 100) (hl : (limbs (m * 10 ^ s)).length < 1000) :
    Calls Tryd.prog 26 #[.agg #[.bool false, u, v], .int .i64 s, .int .i64 way] w fun e w' => ∃ r, e = .returned (.agg #[.bool false, r, .int .i64 (-(s : Int))]) ∧ IsNew w' w.heap.size r (m * 10 ^ s) ∧ Below w.heap.size w w' := by
  have hpl := limbs_length 12 (10 ^ s) (Nat.lt_of_lt_of_le (Nat.pow_lt_pow_right (by decide) hs) (by decide))
  have hpos : 0 < m * 10 ^ s := Nat.mul_pos hm (Nat.pow_pos (by decide))
  have HP := Lib.hid (fun W => pow10_any s W (by omega))
  have HM := Lib.hid (fun v' W h1 h2 => natMul_any u v' m (10 ^ s) W h1 h2 (by omega) (by omega))
  have HD := Lib.hid (fun u' W h1 h2 => natDiv_short u' v (m * 10 ^ s) 1 W h1 h2 (by omega) (by omega) (by omega) (by omega))
  have HW := Lib.hid (fun r W hr => wholeMk_any false r (m * 10 ^ s) W hr)
  rw [Nat.div_one, Nat.mod_one] at HD
  rw [show (false && decide (0 < m * 10 ^ s)) = false from rfl] at HW
  have HU := Lib.hid (fun (W : World) (hb : Below w.heap.size w W) => hu.below hb)
  have HV := Lib.hid (fun (W : World) (hb : Below w.heap.size w W) => hv.below hb)
  obtain ⟨A, c, rfl, hc, hr⟩ := hu
  obtain ⟨B, cb, rfl, hcb, hrb⟩ := hv
  have hw : IntKind.i64.wrap (-(s : Int)) = -(s : Int) := IntWalk.i64_in _ (by omega)
  have h00 : (limbs 0).length = 0 := by rw [limbs_zero]; rfl
  have HS : Hid (St w ((w.alloc (.cells #[.bool false, .slice A (limbs m).length c, .slice B (limbs 1).length cb] 45)).alloc (.cells #[.bool false, .slice none 0 0, .int .i64 0] 40))
      [(w.heap.size + 1, 0, .bool false), (w.heap.size + 1, 1, .slice none 0 0), (w.heap.size + 1, 2, .int .i64 0), (w.heap.size, 0, .bool false), (w.heap.size, 1, .slice A (limbs m).length c), (w.heap.size, 2, .slice B (limbs 1).length cb)] (w.heap.size + 1) 3) :=
    ⟨Cells.box3 (Cells.box3 (Cells.nil _) rfl _ _ _ _) (by simp) _ _ _ _, fun o _ => free_box (by simp) _ _ _, by simp, ((Below.refl _ _).alloc (Nat.le_refl _) _).alloc (by simp) _⟩
  clear hr hrb hc hcb hm hml hl hpl hpos hs
  go_enter Tryd.func26, Tryd.ntmps26
  go_wp2
  obtain ⟨W, hW⟩ : ∃ W, (w.alloc (.cells #[.bool false, .slice A (limbs m).length c, .slice B (limbs 1).length cb] 45)).alloc (.cells #[.bool false, .slice none 0 0, .int .i64 0] 40) = W := ⟨_, rfl⟩
  rw [hW] at HS ⊢
  clear hW
  obtain ⟨d0, d1, d2, a0, a1, a2, -⟩ := HS.out.cells
  go_quiet (fail)
  have HS1 := Lib.hid (fun k => HS.out.call (pw_below_drewN (n := k) (Below.refl _ W)))
  clear HS
  go_wp2_with (first | (go_at_call 57; go_must (refine (HP.out _).mono ?_); rintro e w2 ⟨r, rfl, hn, hb⟩; have HS2 := Lib.hid ((HS1.out _).call hb); have HG2 := Lib.hid hn; obtain ⟨A2, c2, rfl⟩ := hn.slice; clear hn hb) | (go_at_call 56; go_must (refine (HM.out _ _ (HU.out _ HS2.out.below) HG2.out.isNat).mono ?_); rintro e w3 ⟨r, rfl, hn, hb⟩; have HS3 := Lib.hid (HS2.out.call hb); have HG3 := Lib.hid hn; obtain ⟨A3, c3, rfl⟩ := hn.slice; clear hn hb) | (go_at_call 58; go_must (refine (HD.out _ _ HG3.out.isNat (HV.out _ HS3.out.below)).mono ?_); rintro e w4 ⟨q, r, rfl, hn, hn', hb⟩; have HS4 := Lib.hid (HS3.out.call hb); have HG4 := Lib.hid hn; obtain ⟨A4, c4, rfl⟩ := hn.slice; obtain ⟨A5, c5, rfl⟩ := hn'.slice; clear hn hn' hb))
  obtain ⟨d04, d14, d24, a04, a14, a24, -⟩ := HS4.out.cells
  go_quiet (fail)
  have HS5 := Lib.hid (fun k => HS4.out.call (pw_below_drewN (Below.refl _ w4) k))
  have HG5 := Lib.hid (fun k => HG4.out.below (pw_below_drewN (Below.refl _ w4) k))
  go_wp2_with (first | (go_at_call 62; go_must (refine (HW.out _ _ (HG5.out _).isNat).mono ?_); rintro e w5 ⟨rfl, hb⟩; have HS6 := Lib.hid ((HS5.out _).call hb); have HG6 := Lib.hid ((HG5.out _).below hb); obtain ⟨e0, e1, e2, -⟩ := HS6.out.cells; have f0 := HS6.out.free 0 (by omega); have f1 := HS6.out.free 1 (by omega); have f2 := HS6.out.free 2 (by omega); have hz := HS6.out.lt; clear hb))
  exact bodyPost_ret (v := .agg #[.bool false, .slice A4 (limbs (m * 10 ^ s)).length c4, .int .i64 (-(s : Int))]) (by simp [results, Tryd.results26, go_sem, e0, e1, e2, f0, f1, f2, hz]) rfl ⟨_, rfl, (((HG6.out.set (by exact HS3.out.lt) _).set (by exact HS3.out.lt) _).set (by exact HS3.out.lt) _).lower HS3.out.below.size, ((HS6.out.below.setCell (p := ⟨w.heap.size + 1, 0, none⟩) (Nat.le_succ _) _).setCell (p := ⟨w.heap.size + 1, 1, none⟩) (Nat.le_succ _) _).setCell (p := ⟨w.heap.size + 1, 2, none⟩) (Nat.le_succ _) _⟩
end Go.Proofs.YthkmgjkajllemaaDoor.Spec
