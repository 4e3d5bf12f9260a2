/- The law FnDecNew answers true for every value and exponent. -/
import Derived.Test.YthkmgjkajllemaaDecMake
import Derived.Test.YthkmgjkajllemaaWEqStruct
namespace Go.Proofs.Ythkmgjkajllemaa.DecLike
open Go.RowKit Go.Proofs.YthkmgjkajllemaaW.PrintWords Go.Proofs.Ythkmgjkajllemaa.Num Go.Proofs.Ythkmgjkajllemaa.Str Go.Proofs.Ythkmgjkajllemaa.Nats Go.Proofs.Ythkmgjkajllemaa.Mem Go.Proofs.Ythkmgjkajllemaa.Big Go.Proofs.Ythkmgjkajllemaa.DecMake
set_option linter.unusedVariables false
set_option linter.unusedSimpArgs false

theorem eqA24 (d : Nat) (w : World) (x0 y0 : ByteArray) (x1 y1 : Int) :
    (Op.equalIn (d + 2) 24 (.agg #[.string x0, .int .i64 x1]) (.agg #[.string y0, .int .i64 y1])).run Try.prog w = .ok (x0.toList == y0.toList && (x1 == y1)) w := by
  refine eqA_of Try.underlying24 (by kernel_rfl) ?_
  refine eqf_cons (by rfl) (by go_simp; rfl) (by go_simp; rfl) (by go_simp) ?_
  exact eqf_last (by rfl) (by go_simp; rfl) (by go_simp; rfl) (by go_simp)
attribute [local go_sem high] eqA24

theorem places_ok (e : Int) (w : World) (h1 : -400 ≤ e) (h2 : e ≤ 400) :
    Calls Try.prog 14 #[.int .i64 e] w fun r w' => r = .returned (.bool true) ∧ Below w.heap.size w w' := by
  refine (Pplaces.impl_places.calls e true w ?_).mono ?_
  · unfold Pplaces.impl_places.f
    simp [h1, h2]
  · rintro r w' ⟨rfl, hd⟩
    exact ⟨rfl, hd.below⟩

theorem decNew_ok (x e : Int) (w : World) (h1 : -9223372036854775808 ≤ x) (h2 : x ≤ 9223372036854775807) (h3 : -400 ≤ e) (h4 : e ≤ 400) :
    Calls Try.prog 5 #[.int .i64 x, .int .i64 e] w fun r w' => r = .returned (.tuple #[.agg #[.string (textZ (decide (x < 0)) x.natAbs), .int .i64 e], .int .i64 0]) ∧ Below w.heap.size w w' := by
  have HP := Lib.hid (fun W => places_ok e W h3 h4)
  have HN := Lib.hid (fun W => new_any x e W h1 h2)
  have HD := Lib.hid (fun g b W hW => dec1_any g e (decide (x < 0)) x.natAbs b W hW (by omega) (by omega) (by omega))
  have hwr : IntKind.i32.wrap e = e := IntWalk.i32_in _ (by omega)
  generalize textZ (decide (x < 0)) x.natAbs = txt at HD ⊢
  generalize decide (x < 0) = neg at HN HD
  generalize x.natAbs = n at HN HD
  clear h1 h2
  go_enter Try.func5, Try.ntmps5
  go_wp2_with (first | (go_at_call 14; go_must (refine (HP.out _).mono ?_); rintro r w1 ⟨rfl, hb⟩; obtain ⟨H2, hb1⟩ := made2 hb; have HB := Lib.hid hb1; have HC := Lib.hid H2; clear hb hb1 H2) | (go_at_call 16; go_must (refine (HN.out _).mono ?_); rintro r w2 ⟨g, rfl, hi, hb⟩; have HI := Lib.hid hi; have HB2 := Lib.hid (below_by HB.out hb); have HC2 := Lib.hid (HC.out.below hb); clear hb hi) | (go_at_call 15; go_must (refine (HD.out _ _ _ HI.out).mono ?_); rintro r w3 ⟨rfl, hb⟩; obtain ⟨c0, c1, f0, f1, hz⟩ := HC2.out.below hb; have HB3 := Lib.hid (below_by HB2.out hb); clear hb))
  exact bodyPost_ret (v := .tuple #[.agg #[.string txt, .int .i64 e], .int .i64 0]) (by simp [results, Try.results5, go_sem, c0, c1, f0, f1, hz]) rfl ⟨rfl, (HB3.out.setCell (Nat.le_refl _) _).setCell (Nat.le_refl _) _⟩

theorem decUint_ok (n : Nat) (w : World) (hn : n < 18446744073709551616) :
    Calls Try.prog 6 #[.int .u64 n] w fun r w' => r = .returned (.agg #[.string (textZ false n), .int .i64 0]) ∧ Below w.heap.size w w' := by
  have HN := Lib.hid (fun W => fromUint_any n W)
  have HD := Lib.hid (fun g b W hW => dec1_any g 0 false n b W hW hn (by omega) (by omega))
  generalize textZ false n = txt at HD ⊢
  go_enter Try.func6, Try.ntmps6
  go_wp2_with (first | (go_at_call 17; go_must (refine (HN.out _).mono ?_); rintro r w2 ⟨g, rfl, hi, hb⟩; obtain ⟨H2, hb1⟩ := made2 hb; have HB := Lib.hid hb1; have HC := Lib.hid H2; have HI := Lib.hid hi; clear hb hb1 H2 hi) | (go_at_call 15; go_must (refine (HD.out _ _ _ HI.out).mono ?_); rintro r w3 ⟨rfl, hb⟩; obtain ⟨c0, c1, f0, f1, hz⟩ := HC.out.below hb; have HB3 := Lib.hid (below_by HB.out hb); clear hb))
  exact bodyPost_ret (v := .agg #[.string txt, .int .i64 0]) (by simp [results, Try.results6, go_sem, c0, c1, f0, f1, hz]) rfl ⟨rfl, (HB3.out.setCell (Nat.le_refl _) _).setCell (Nat.le_refl _) _⟩

theorem strOfNums_cons (l : List Int) : strOfNums (45 :: l) = ⟨#[45]⟩ ++ strOfNums l := by
  unfold strOfNums
  apply ByteArray.ext
  simp
/-- A whole number of the reference as text. -/
theorem wholeString_any (neg : Bool) (u : Value) (n : Nat) (w : World) (hu : IsNat w u n) (hs : neg = true → 0 < n) (hl : (limbs n).length < 1000000000) (hdl : (decs n).length < 1000000000) :
    Calls Try.prog 29 #[.agg #[.bool neg, u]] w fun r w' => r = .returned (.string (textZ neg n)) ∧ Below w.heap.size w w' := by
  have HN : Hid (∀ o, Calls Try.prog 39 #[u] (w.alloc o) fun e w' => e = .returned (.string (text n)) ∧ Below (w.alloc o).heap.size (w.alloc o) w') := fun o => natString_any n u _ (hu.below ((Below.refl _ _).alloc (Nat.le_refl _) o)) hl
  obtain ⟨A, c, rfl, hc, hr⟩ := hu
  clear hr hc
  cases neg with
  | true =>
    have hn := hs rfl
    clear hs
    have ht : ⟨#[45]⟩ ++ text n = textZ true n := by
      unfold text textZ
      rw [if_neg (by omega), if_neg (by omega), if_pos rfl, List.reverse_append]
      exact (strOfNums_cons _).symm
    have hsz : (text n).size = (decs n).length := text_size n hn
    have h45 : (⟨#[45]⟩ : ByteArray).size = 1 := rfl
    have hs0 : ¬ (9223372036854775807 < (⟨#[45]⟩ : ByteArray).size + (text n).size) := by omega
    have hs1 : ¬ (9223372036854775807 < 1 + (text n).size) := by omega
    clear hsz h45
    have HT := Lib.hid ht
    clear ht hn
    go_enter Try.func29, Try.ntmps29
    go_wp2_with (first | (go_at_call 39; go_must (refine (HN.out _).mono ?_); rintro r w2 ⟨rfl, hb⟩; have HB := Lib.hid (below_one _ hb); clear hb))
    go_ret
    exact ⟨congrArg (fun t => Ending.returned (.string t)) HT.out, HB.out⟩
  | false =>
    have ht : text n = textZ false n := by
      unfold text textZ
      simp
    have HT := Lib.hid ht
    clear ht hs
    go_enter Try.func29, Try.ntmps29
    go_wp2_with (first | (go_at_call 39; go_must (refine (HN.out _).mono ?_); rintro r w2 ⟨rfl, hb⟩; have HB := Lib.hid (below_one _ hb); clear hb))
    go_ret
    exact ⟨congrArg (fun t => Ending.returned (.string t)) HT.out, HB.out⟩

theorem decOf_any (neg : Bool) (u : Value) (n : Nat) (e : Int) (w : World) (hu : IsNat w u n) (hs : neg = true → 0 < n) (hl : (limbs n).length < 1000000000) (hdl : (decs n).length < 1000000000) :
    Calls Try.prog 18 #[.agg #[.bool neg, u, .int .i64 e]] w fun r w' => r = .returned (.agg #[.string (textZ neg n), .int .i64 e]) ∧ Below w.heap.size w w' := by
  have HW := Lib.hid (fun W hW => wholeString_any neg u n W hW hs hl hdl)
  have hu2 : IsNat (((w.alloc (.cells #[.bool neg, u, .int .i64 e] 35)).alloc (.cells #[.string ⟨#[]⟩, .int .i64 0] 24)).drew) u n :=
    hu.below (below_drew (((Below.refl _ _).alloc (Nat.le_refl _) _).alloc (by simp) _))
  have HU := Lib.hid hu2
  obtain ⟨A, c, rfl, hc, hr⟩ := hu
  clear hr hc hu2 hs hl hdl
  generalize textZ neg n = txt at HW ⊢
  go_enter Try.func18, Try.ntmps18
  go_wp2
  go_region_with (first | (go_at_call 29; go_must (refine (HW.out _ HU.out).mono ?_); rintro r w2 ⟨rfl, hb⟩; have k2 := pw_cell_below hb (a := ⟨w.heap.size, 2, none⟩) (v := .int .i64 e) (by simp); have d0 := pw_cell_below hb (a := ⟨w.heap.size + 1, 0, none⟩) (v := .string ⟨#[]⟩) (by simp); have d1 := pw_cell_below hb (a := ⟨w.heap.size + 1, 1, none⟩) (v := .int .i64 0) (by simp); have f0 := (hb.frozen (p := ⟨w.heap.size + 1, 0, none⟩) (by simp)).trans (show World.frozen? _ _ = false by simp); have f1 := (hb.frozen (p := ⟨w.heap.size + 1, 1, none⟩) (by simp)).trans (show World.frozen? _ _ = false by simp); have HB := Lib.hid ((below_drew (((Below.refl w.heap.size w).alloc (Nat.le_refl _) (.cells #[.bool neg, .slice A (limbs n).length c, .int .i64 e] 35)).alloc (by simp) (.cells #[.string ⟨#[]⟩, .int .i64 0] 24))).trans (hb.mono (by simp; omega))); clear hb))
  all_goals (go_wp2; exact bodyPost_ret (v := .agg #[.string txt, .int .i64 e]) (by simp [results, Try.results18, go_sem, d0, d1, f0, f1]) rfl ⟨rfl, (HB.out.setCell (Nat.le_succ _) _).setCell (Nat.le_succ _) _⟩)

theorem like_any (t : ByteArray) (e' : Int) (neg : Bool) (u : Value) (n : Nat) (e : Int) (w : World) (hu : IsNat w u n) (hs : neg = true → 0 < n) (hl : (limbs n).length < 1000000000) (hdl : (decs n).length < 1000000000) :
    Calls Try.prog 7 #[.agg #[.string t, .int .i64 e'], .agg #[.bool neg, u, .int .i64 e]] w fun r w' => r = .returned (.bool (t.toList == (textZ neg n).toList && (e' == e))) ∧ Below w.heap.size w w' := by
  have HD := Lib.hid (fun W hW => decOf_any neg u n e W hW hs hl hdl)
  have hu2 : IsNat (((w.alloc (.cells #[.string t, .int .i64 e'] 24)).alloc (.cells #[.bool neg, u, .int .i64 e] 35)).drew) u n :=
    hu.below (below_drew (((Below.refl _ _).alloc (Nat.le_refl _) _).alloc (by simp) _))
  have HU := Lib.hid hu2
  obtain ⟨A, c, rfl, hc, hr⟩ := hu
  clear hr hc hu2 hs hl hdl
  generalize textZ neg n = txt at HD ⊢
  go_enter Try.func7, Try.ntmps7
  go_wp2
  go_region_with (first | (go_at_call 18; go_must (refine (HD.out _ HU.out).mono ?_); rintro r w2 ⟨rfl, hb⟩; have k0 := pw_cell_below hb (a := ⟨w.heap.size, 0, none⟩) (v := .string t) (by simp); have k1 := pw_cell_below hb (a := ⟨w.heap.size, 1, none⟩) (v := .int .i64 e') (by simp); have HB := Lib.hid ((below_drew (((Below.refl w.heap.size w).alloc (Nat.le_refl _) (.cells #[.string t, .int .i64 e'] 24)).alloc (by simp) (.cells #[.bool neg, .slice A (limbs n).length c, .int .i64 e] 35))).trans (hb.mono (by simp; omega))); clear hb))
  all_goals (go_wp2; go_ret; exact ⟨rfl, HB.out⟩)

theorem old_at {w : World} {b i : Nat} {v : Value} (h : w.cell? ⟨b, i, none⟩ = some v) (hl : b < w.heap.size) (o : Obj) : (w.alloc o).cell? ⟨b, i, none⟩ = some v :=
  (((Below.refl w.heap.size w).alloc (Nat.le_refl _) o).cell (p := ⟨b, i, none⟩) hl).trans h
/-- Two decimals in memory. -/
structure Two (w W : World) (a b : Nat) (s : ByteArray) (e : Int) (t : ByteArray) (f : Int) : Prop where
  a0 : W.cell? ⟨a, 0, none⟩ = some (.string s)
  a1 : W.cell? ⟨a, 1, none⟩ = some (.int .i64 e)
  b0 : W.cell? ⟨b, 0, none⟩ = some (.string t)
  b1 : W.cell? ⟨b, 1, none⟩ = some (.int .i64 f)
  below : Below w.heap.size w W
theorem Two.call {w W W' : World} {a b : Nat} {s t : ByteArray} {e f : Int} (h : Two w W a b s e t f) (hb : Below W.heap.size W W') : Two w W' a b s e t f :=
  ⟨pw_cell_below hb h.a0, pw_cell_below hb h.a1, pw_cell_below hb h.b0, pw_cell_below hb h.b1, below_by h.below hb⟩

set_option maxHeartbeats 2000000 in
set_option maxRecDepth 100000 in
theorem law_ok (x e : Int) (n : Nat) (w : World) (h1 : -9223372036854775808 ≤ x) (h2 : x ≤ 9223372036854775807) (h3 : -400 ≤ e) (h4 : e ≤ 400) (hn : n < 18446744073709551616) :
    Calls Try.prog 3 #[.int .i64 x, .int .i64 e, .int .u64 n] w fun r w' => r = .returned (.bool true) ∧ Below w.heap.size w w' := by
  have HF := Lib.hid (decNew_ok x e w h1 h2 h3 h4)
  have HG := Lib.hid (fun W => decUint_ok n W hn)
  have HW := Lib.hid (fun W => wholeOf_any x W h1 h2)
  have HN := Lib.hid (fun W => natFrom_new n W hn)
  have hd1 := decs_length 20 x.natAbs (by omega)
  have hd2 := decs_length 20 n (by omega)
  have hl1 := limbs_length 3 x.natAbs (by omega)
  have hl2 := limbs_length 3 n (by omega)
  have hL1 := fun u W hW => like_any (textZ (decide (x < 0)) x.natAbs) e (decide (x < 0)) u x.natAbs e W hW (fun h => by have := of_decide_eq_true h; omega) (by omega) (by omega)
  have hL2 := fun u W hW => like_any (textZ false n) 0 false u n 0 W hW (fun h => by cases h) (by omega) (by omega)
  simp only [BEq.rfl, Bool.and_self] at hL1 hL2
  have HL1 := Lib.hid hL1
  have HL2 := Lib.hid hL2
  clear hL1 hL2 hd1 hd2 hl1 hl2
  generalize textZ (decide (x < 0)) x.natAbs = t1 at HF HL1
  generalize textZ false n = t2 at HG HL2
  generalize decide (x < 0) = neg at HW HL1
  generalize x.natAbs = m at HW HL1
  have g0 : decide (e < -400) = false := decide_eq_false (by omega)
  have g1 : decide (400 < e) = false := decide_eq_false (by omega)
  clear h1 h2 h3 h4 hn
  go_enter Try.func3, Try.ntmps3
  go_wp2_with (first | (go_at_call 5; go_must (refine HF.out.mono ?_); rintro r w1 ⟨rfl, hb⟩; have HB := Lib.hid hb; clear hb) | (go_at_call 6; go_must (refine (HG.out _).mono ?_); rintro r w2 ⟨rfl, hb⟩; obtain ⟨H2, hb1⟩ := made2 hb; have HB2 := Lib.hid (below_by HB.out hb1); have HC := Lib.hid H2; clear hb hb1 H2))
  have HT : Hid (Two w ((w2.alloc (.cells #[.string t2, .int .i64 0] 24)).drew) w1.heap.size w2.heap.size t1 e t2 0) :=
    ⟨(old_at HC.out.c0 HC.out.lt _), (old_at HC.out.c1 HC.out.lt _), by simp, by simp, below_drew (below_at HB2.out _)⟩
  have HT0 : Hid (Two w ((w2.alloc (.cells #[.string t2, .int .i64 0] 24))) w1.heap.size w2.heap.size t1 e t2 0) :=
    ⟨(old_at HC.out.c0 HC.out.lt _), (old_at HC.out.c1 HC.out.lt _), by simp, by simp, (below_at HB2.out _)⟩
  obtain ⟨W, hW⟩ : ∃ W, w2.alloc (.cells #[.string t2, .int .i64 0] 24) = W := ⟨_, rfl⟩
  obtain ⟨b2, hb2⟩ : ∃ b2, w2.heap.size = b2 := ⟨_, rfl⟩
  obtain ⟨b1, hb1⟩ : ∃ b1, w1.heap.size = b1 := ⟨_, rfl⟩
  rw [hW, hb2, hb1] at HT HT0
  rw [hW, hb2, hb1]
  clear hW hb2 hb1 HC HB2 HB
  have a0 := HT0.out.a0
  have a1 := HT0.out.a1
  have b0 := HT0.out.b0
  have b1' := HT0.out.b1
  clear HT0
  go_region_with (first | (go_at_call 8; go_must (refine (HW.out _).mono ?_); rintro r w3 ⟨u, rfl, hn, hb⟩; obtain ⟨A, c, rfl⟩ := hn.slice; have HI := Lib.hid hn; have HT3 := Lib.hid (HT.out.call hb); have a03 := HT3.out.a0; have a13 := HT3.out.a1; have b03 := HT3.out.b0; have b13 := HT3.out.b1; clear hn hb) | (go_at_call 9; go_must (refine (HN.out _).mono ?_); rintro r w5 ⟨u, rfl, hn, hb⟩; obtain ⟨A', c', rfl⟩ := hn.slice; have HI5 := Lib.hid hn; have HT5 := Lib.hid (HT4.out.call hb); have a05 := HT5.out.a0; have a15 := HT5.out.a1; have b05 := HT5.out.b0; have b15 := HT5.out.b1; clear hn hb) | (go_at_call 7; first | (refine (HL1.out _ _ HI.out.isNat).mono ?_; rintro r w4 ⟨rfl, hb⟩; have HT4 := Lib.hid (HT3.out.call hb); have a04 := HT4.out.a0; have a14 := HT4.out.a1; have b04 := HT4.out.b0; have b14 := HT4.out.b1; clear hb) | (refine (HL2.out _ _ HI5.out.isNat).mono ?_; rintro r w6 ⟨rfl, hb⟩; have HT6 := Lib.hid (HT5.out.call hb); clear hb)))
  all_goals (go_wp2; go_ret; exact ⟨rfl, HT6.out.below⟩)
end Go.Proofs.Ythkmgjkajllemaa.DecLike
