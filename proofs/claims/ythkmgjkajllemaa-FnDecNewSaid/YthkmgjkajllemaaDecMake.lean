/- The reference's whole numbers, and the thin package's big integers of one word. -/
import Derived.Test.YthkmgjkajllemaaMem
import Derived.Test.YthkmgjkajllemaaNat
import Derived.Test.YthkmgjkajllemaaBig
import Derived.Test.YthkmgjkajllemaaPplacesx
import Derived.Deep.RegionWith
namespace Go.Proofs.Ythkmgjkajllemaa.DecMake
open Go.RowKit Go.Proofs.YthkmgjkajllemaaW.PrintWords Go.Proofs.Ythkmgjkajllemaa.Num Go.Proofs.Ythkmgjkajllemaa.Str Go.Proofs.Ythkmgjkajllemaa.Nats Go.Proofs.Ythkmgjkajllemaa.Mem Go.Proofs.Ythkmgjkajllemaa.Big
set_option linter.unusedVariables false
set_option linter.unusedSimpArgs false

/-- The limbs of a value. -/
theorem wholeOf_any (v : Int) (w : World) (h1 : -9223372036854775808 ≤ v) (h2 : v ≤ 9223372036854775807) :
    Calls Try.prog 8 #[.int .i64 v] w fun e w' => ∃ u, e = .returned (.agg #[.bool (decide (v < 0)), u]) ∧ IsNew w' w.heap.size u v.natAbs ∧ Below w.heap.size w w' := by
  have HN : Hid (∀ W, Calls Try.prog 9 #[.int .u64 (v.natAbs : Nat)] W fun e w' => ∃ u, e = .returned u ∧ IsNew w' W.heap.size u v.natAbs ∧ Below W.heap.size W w') := fun W => natFrom_new v.natAbs W (by omega)
  by_cases h0 : v < 0
  · have hd : decide (v < 0) = true := decide_eq_true h0
    rw [hd]
    have hv1 : v + 1 ≤ 0 := by omega
    have hv3 : 0 ≤ -(v + 1) := by omega
    have HV := Lib.hid (show -(v + 1) + 1 = ((v.natAbs : Nat) : Int) by omega)
    generalize v.natAbs = n at HN HV ⊢
    clear h0
    go_enter Try.func8, Try.ntmps8
    go_wp2_with fail
    rw [HV.out]
    refine (HN.out _).mono ?_
    rintro e w1 ⟨u, rfl, hn, hb⟩
    obtain ⟨A, c, rfl⟩ := hn.slice
    obtain ⟨⟨c0, c1, f0, f1, hz⟩, hb1⟩ := made2 hb
    have HB := Lib.hid hb1
    have HI := Lib.hid hn
    clear hb hb1 hn
    go_wp2
    exact bodyPost_ret (v := .agg #[.bool true, .slice A (limbs n).length c]) (by simp [results, Try.results8, go_sem, c0, c1, f0, f1, hz]) rfl ⟨_, rfl, ((HI.out.set (by simp) _).set (by simp) _).lower (by simp), (HB.out.setCell (Nat.le_refl _) _).setCell (Nat.le_refl _) _⟩
  · have hd : decide (v < 0) = false := decide_eq_false h0
    rw [hd]
    obtain ⟨n, rfl⟩ := Int.eq_ofNat_of_zero_le (show 0 ≤ v by omega)
    rw [show ((n : Int).natAbs) = n by omega] at HN ⊢
    clear h0
    go_enter Try.func8, Try.ntmps8
    go_wp2_with fail
    refine (HN.out _).mono ?_
    rintro e w1 ⟨u, rfl, hn, hb⟩
    obtain ⟨A, c, rfl⟩ := hn.slice
    obtain ⟨⟨c0, c1, f0, f1, hz⟩, hb1⟩ := made2 hb
    have HB := Lib.hid hb1
    have HI := Lib.hid hn
    clear hb hb1 hn
    go_wp2
    exact bodyPost_ret (v := .agg #[.bool false, .slice A (limbs n).length c]) (by simp [results, Try.results8, go_sem, c0, c1, f0, f1, hz]) rfl ⟨_, rfl, ((HI.out.set (by simp) _).set (by simp) _).lower (by simp), (HB.out.setCell (Nat.le_refl _) _).setCell (Nat.le_refl _) _⟩


/-- The words of an amount of one word. -/
def ws1 (n : Nat) : List Int := if n = 0 then [] else [(n : Int)]
theorem v64_ws1 (n : Nat) : v64 (ws1 n) = n := by
  unfold ws1
  split
  · simp [v64, *]
  · simp [v64]
theorem ws1_length (n : Nat) : (ws1 n).length ≤ 1 := by
  unfold ws1
  split <;> simp

theorem C_one {k : IntKind} {w : World} {g : Nat} {x : Int} (h : w.cell? ⟨g, 0, none⟩ = some (.int k x)) : (Kd.int k).C w (some ⟨g, 0, none⟩) 1 [x] :=
  Kd.C_of_reads (enc := Value.int k) (d := (0 : Int)) ⟨rfl, by omega, fun _ => ⟨_, rfl, fun j hj => by
    match j, hj with
    | 0, _ => simpa [add_plain] using h⟩⟩
theorem C_none {k : IntKind} {w : World} (A : Option Addr) : (Kd.int k).C w A 0 [] :=
  Kd.C_of_reads (enc := Value.int k) (d := (0 : Int)) ⟨rfl, by omega, fun h => absurd h (by omega)⟩

/-- A big integer of one word, in blocks from b on. -/
structure Is1 (w : World) (b g : Nat) (neg : Bool) (n : Nat) : Prop where
  lo : b ≤ g
  lt : g < w.heap.size
  neg : w.cell? ⟨g, 0, none⟩ = some (.bool neg)
  abs : (n = 0 ∧ w.cell? ⟨g, 1, none⟩ = some (.slice none 0 0)) ∨ (0 < n ∧ ∃ k c, b ≤ k ∧ k < w.heap.size ∧ w.cell? ⟨g, 1, none⟩ = some (.slice (some ⟨k, 0, none⟩) 1 c) ∧ w.cell? ⟨k, 0, none⟩ = some (.int .u64 n) ∧ 1 ≤ c)
theorem Is1.below {w w1 : World} {b g : Nat} {neg : Bool} {n : Nat} (h : Is1 w b g neg n) (hb : Below w.heap.size w w1) : Is1 w1 b g neg n :=
  ⟨h.lo, Nat.lt_of_lt_of_le h.lt hb.size, (hb.cell h.lt).trans h.neg, h.abs.imp (fun h1 => ⟨h1.1, (hb.cell h.lt).trans h1.2⟩)
    (fun ⟨h0, k, c, h1, h2, h3, h4, h5⟩ => ⟨h0, k, c, h1, Nat.lt_of_lt_of_le h2 hb.size, (hb.cell h.lt).trans h3, (hb.cell h2).trans h4, h5⟩)⟩
theorem Is1.lower {w : World} {b b' g : Nat} {neg : Bool} {n : Nat} (h : Is1 w b g neg n) (hb : b' ≤ b) : Is1 w b' g neg n :=
  ⟨Nat.le_trans hb h.lo, h.lt, h.neg, h.abs.imp id (fun ⟨h0, k, c, h1, h2, h3, h4, h5⟩ => ⟨h0, k, c, Nat.le_trans hb h1, h2, h3, h4, h5⟩)⟩
theorem cell_far {w : World} {p q : Addr} {u : Value} (h : p.block ≠ q.block) : (w.setCell p u).cell? q = w.cell? q :=
  World.cell?_setCell_other _ _ _ _ (fun e => h (congrArg Addr.block e))
theorem Is1.set {w : World} {b g : Nat} {neg : Bool} {n : Nat} (h : Is1 w b g neg n) {p : Addr} (hp : p.block < b) (u : Value) : Is1 (w.setCell p u) b g neg n :=
  have hg : p.block ≠ g := by have := h.lo; omega
  ⟨h.lo, by simpa using h.lt, (cell_far hg).trans h.neg, h.abs.imp (fun h1 => ⟨h1.1, (cell_far hg).trans h1.2⟩)
    (fun ⟨h0, k, c, h1, h2, h3, h4, h5⟩ => ⟨h0, k, c, h1, by simpa using h2, (cell_far hg).trans h3, (cell_far (q := ⟨k, 0, none⟩) (by show p.block ≠ k; omega)).trans h4, h5⟩)⟩
theorem Is1.int {w : World} {b g : Nat} {neg : Bool} {n : Nat} (h : Is1 w b g neg n) : IsInt w g neg (ws1 n) := by
  rcases h.abs with ⟨rfl, h1⟩ | ⟨h0, k, c, _, _, h3, h4, h5⟩
  · exact ⟨h.neg, none, 0, h1, Nat.le_refl _, C_none _⟩
  · rw [show ws1 n = [(n : Int)] from if_neg (by omega)]
    exact ⟨h.neg, some ⟨k, 0, none⟩, c, h3, h5, C_one h4⟩

theorem newInt_any (x : Int) (w : World) (h1 : -9223372036854775808 ≤ x) (h2 : x ≤ 9223372036854775807) :
    Calls Try.prog 27 #[.int .i64 x] w fun e w' => ∃ g, e = .returned (.pointer (some ⟨g, 0, none⟩)) ∧ Is1 w' w.heap.size g (decide (x < 0)) x.natAbs ∧ Below w.heap.size w w' := by
  by_cases h0 : x = 0
  · subst h0
    go_enter Try.func27, Try.ntmps27
    go_wp2
    go_ret
    exact ⟨w.heap.size, rfl, ⟨Nat.le_refl _, by simp, by simp, .inl ⟨rfl, by simp⟩⟩, (Below.refl _ _).alloc (Nat.le_refl _) _⟩
  · by_cases hp : 0 < x
    · obtain ⟨n, rfl⟩ := Int.eq_ofNat_of_zero_le (show 0 ≤ x by omega)
      rw [show ((n : Int).natAbs) = n by omega]
      have hn : n ≠ 0 := by omega
      have hd : decide ((n : Int) < 0) = false := decide_eq_false (by omega)
      have hd1 : ((n : Int) == 0) = false := beq_eq_false_iff_ne.2 (by omega)
      have hd2 : decide ((n : Int) = 0) = false := decide_eq_false (by omega)
      rw [hd]
      have HP : Hid (0 < n) := Lib.hid (by omega)
      clear h0 hp hn
      go_enter Try.func27, Try.ntmps27
      go_wp2
      go_ret
      exact ⟨w.heap.size + 1, rfl, ⟨by omega, by simp, by simp, .inr ⟨HP.out, w.heap.size, 1, Nat.le_refl _, by simp; omega, by simp, by simp, Nat.le_refl _⟩⟩, ((Below.refl _ _).alloc (Nat.le_refl _) _).alloc (by simp) _⟩
    · have hn : x.natAbs ≠ 0 := by omega
      have hd : decide (x < 0) = true := decide_eq_true (by omega)
      have hd1 : (x == 0) = false := beq_eq_false_iff_ne.2 (by omega)
      have hd2 : decide (x = 0) = false := decide_eq_false (by omega)
      rw [hd]
      have HV := Lib.hid (show IntKind.u64.wrap (-(IntKind.u64.wrap x)) = ((x.natAbs : Nat) : Int) by simp [IntKind.wrap, IntKind.bits, IntKind.signed]; omega)
      have HP : Hid (0 < x.natAbs) := Lib.hid (by omega)
      clear hp hn
      generalize x.natAbs = n at HV HP ⊢
      go_enter Try.func27, Try.ntmps27
      go_wp2
      go_ret
      exact ⟨w.heap.size + 1, rfl, ⟨by omega, by simp, by simp, .inr ⟨HP.out, w.heap.size, 1, Nat.le_refl _, by simp; omega, by simp, by simp [HV.out], Nat.le_refl _⟩⟩, ((Below.refl _ _).alloc (Nat.le_refl _) _).alloc (by simp) _⟩

theorem info81 : (Try.prog.info? 81).map (fun i => (i.zero, i.size, i.bytes)) = some (some (.int .u64 0), 1, 8) := by kernel_rfl
/-- A new slice of one word. -/
structure Word1 (w w' : World) (k c n : Nat) : Prop where
  lo : w.heap.size ≤ k
  lt : k < w'.heap.size
  cell : w'.cell? ⟨k, 0, none⟩ = some (.int .u64 n)
  cap : 1 ≤ c
  below : Below w.heap.size w w'
set_option maxRecDepth 100000 in
/-- The words' slice of a nil one, and the setters by it. -/
theorem make1_any (w : World) :
    Calls Try.prog 48 #[.slice none 0 0, .int .i64 1] w fun e w' => ∃ k c, e = .returned (.slice (some ⟨k, 0, none⟩) 1 c) ∧ Word1 w w' k c 0 ∧ w'.frozen? ⟨k, 0, none⟩ = false := by
  go_enter Try.func48, Try.ntmps48
  go_wp2_with (first | ((with_reducible refine gate_dst (N := 14) rfl ?_); refine Kd.R_make (w0 := w) (Kd.int .u64) w.heap.size 81 rfl (N := 14) rfl 65 _ _ rfl 1 rfl rfl Try.underlying65 (.int .u64 0) 8 info81 rfl (by decide) (by omega) 0 (ok := fun _ => True) (okp := fun _ => True) rfl (fun _ hk => hk) trivial (by omega) (by decide) (Below.refl _ _) (Nat.le_refl _) ?_; intro v1 w1 ho hb hg hn; obtain ⟨k, c, e1, h1, h2, _⟩ := Kd.R_form ho (by simp); subst e1; have HO := Aside0.mk ho; have HB := Aside0.mk hb; clear ho hb hg hn))
  go_ret
  obtain ⟨hc, hf⟩ := Kd.R_celln 0 HO.out 0 (by omega) (by simp)
  obtain ⟨A, c', e', hc', _⟩ := Kd.R_reads HO.out
  injection e' with _ _ e3
  exact ⟨k, c, rfl, ⟨h1, h2, hc, by rw [e3]; exact hc', HB.out⟩, hf⟩
theorem setWord_zero (w : World) :
    Calls Try.prog 47 #[.slice none 0 0, .int .u64 0] w fun e w' => e = .returned (.slice none 0 0) ∧ w' = w := by
  go_enter Try.func47, Try.ntmps47
  go_wp2
  go_ret
  exact ⟨rfl, rfl⟩
theorem setWord_pos (n : Nat) (w : World) (h0 : 0 < n) :
    Calls Try.prog 47 #[.slice none 0 0, .int .u64 n] w fun e w' => ∃ k c, e = .returned (.slice (some ⟨k, 0, none⟩) 1 c) ∧ Word1 w w' k c n := by
  have hd1 : ((n : Int) == 0) = false := beq_eq_false_iff_ne.2 (by omega)
  have hd2 : decide ((n : Int) = 0) = false := decide_eq_false (by omega)
  have HM := Lib.hid (make1_any w)
  clear h0
  go_enter Try.func47, Try.ntmps47
  go_wp2_with (first | (go_at_call 48; go_must (refine HM.out.mono ?_); rintro e w1 ⟨k, c, rfl, ⟨h1, h2, hc, h3, hb⟩, hf⟩; have HB := Lib.hid hb; clear hb))
  go_ret
  exact ⟨k, c, rfl, ⟨h1, by simpa using h2, World.cell?_setCell_same _ _ _ hc, h3, HB.out.setCell h1 _⟩⟩
theorem setUint64_zero (w : World) :
    Calls Try.prog 38 #[.slice none 0 0, .int .u64 0] w fun e w' => e = .returned (.slice none 0 0) ∧ w' = w := by
  have HM := Lib.hid (setWord_zero w)
  go_enter Try.func38, Try.ntmps38
  go_wp2_with (first | (go_at_call 47; go_must (refine HM.out.mono ?_); rintro e w1 ⟨rfl, rfl⟩))
  go_ret
  exact ⟨rfl, rfl⟩
theorem setUint64_pos (n : Nat) (w : World) (h0 : 0 < n) :
    Calls Try.prog 38 #[.slice none 0 0, .int .u64 n] w fun e w' => ∃ k c, e = .returned (.slice (some ⟨k, 0, none⟩) 1 c) ∧ Word1 w w' k c n := by
  have HM := Lib.hid (setWord_pos n w h0)
  clear h0
  go_enter Try.func38, Try.ntmps38
  go_wp2_with (first | (go_at_call 47; go_must (refine HM.out.mono ?_); rintro e w1 ⟨k, c, rfl, h1⟩))
  go_ret
  exact ⟨k, c, rfl, h1⟩
theorem bigSet_any (n : Nat) (w : World) :
    Calls Try.prog 28 #[.pointer (some ⟨w.heap.size, 0, none⟩), .int .u64 n] (w.alloc (.cells #[.bool false, .slice none 0 0] 67)) fun e w' => e = .returned (.pointer (some ⟨w.heap.size, 0, none⟩)) ∧ Is1 w' w.heap.size w.heap.size false n ∧ Below w.heap.size w w' := by
  by_cases h0 : n = 0
  · subst h0
    have HM := Lib.hid (setUint64_zero (w.alloc (.cells #[.bool false, .slice none 0 0] 67)))
    rw [show ((0 : Nat) : Int) = 0 from rfl]
    go_enter Try.func28, Try.ntmps28
    go_wp2_with (first | (go_at_call 38; go_must (refine HM.out.mono ?_); rintro e w1 ⟨rfl, rfl⟩))
    go_ret
    exact ⟨rfl, ⟨Nat.le_refl _, by simp, by simp, .inl ⟨rfl, by simp⟩⟩, (Below.refl _ _).alloc (Nat.le_refl _) _⟩
  · have HM := Lib.hid (setUint64_pos n (w.alloc (.cells #[.bool false, .slice none 0 0] 67)) (by omega))
    have HP : Hid (0 < n) := Lib.hid (by omega)
    clear h0
    go_enter Try.func28, Try.ntmps28
    go_wp2_with (first | (go_at_call 38; go_must (refine HM.out.mono ?_); rintro e w1 ⟨k, c, rfl, H1⟩; obtain ⟨⟨c0, c1, f0, f1, hz⟩, hb1⟩ := made2 H1.below; have HB := Lib.hid hb1; have HW := Lib.hid H1; clear hb1 H1))
    go_ret
    obtain ⟨h1, h2, h3, h4, _⟩ := HW.out
    have h1' : w.heap.size + 1 ≤ k := by simpa using h1
    exact ⟨rfl, ⟨Nat.le_refl _, by simpa using hz, World.cell?_setCell_same _ _ _ ((World.cell?_setCell_other _ _ _ _ (by simp)).trans c0), .inr ⟨HP.out, k, c, by omega, by simpa using h2, (World.cell?_setCell_other _ _ _ _ (by simp)).trans (World.cell?_setCell_same _ _ _ c1), by rw [cell_far (by show w.heap.size ≠ k; omega), cell_far (by show w.heap.size ≠ k; omega)]; exact h3, h4⟩⟩, (HB.out.setCell (Nat.le_refl _) _).setCell (Nat.le_refl _) _⟩

theorem fromUint_any (n : Nat) (w : World) :
    Calls Try.prog 17 #[.int .u64 n] w fun e w' => ∃ g, e = .returned (.agg #[.pointer (some ⟨g, 0, none⟩), .int .i32 0]) ∧ Is1 w' w.heap.size g false n ∧ Below w.heap.size w w' := by
  have hB := bigSet_any n (w.alloc (.cells #[.pointer none, .int .i32 0] 50))
  rw [show (w.alloc (.cells #[.pointer none, .int .i32 0] 50)).heap.size = w.heap.size + 1 by simp] at hB
  have HB := Lib.hid hB
  clear hB
  go_enter Try.func17, Try.ntmps17
  go_wp2_with (first | (go_at_call 28; go_must (refine HB.out.mono ?_); rintro e w1 ⟨rfl, hi, hb⟩; obtain ⟨⟨c0, c1, f0, f1, hz⟩, hb1⟩ := made2 (by simpa using hb); have HI := Lib.hid hi; have HW := Lib.hid hb1; clear hb hi hb1))
  exact bodyPost_ret (v := .agg #[.pointer (some ⟨w.heap.size + 1, 0, none⟩), .int .i32 0]) (by simp [results, Try.results17, go_sem, c0, c1, f0, f1, hz]) rfl ⟨_, rfl, ((HI.out.set (by simp) _).set (by simp) _).lower (by simp), (HW.out.setCell (Nat.le_refl _) _).setCell (Nat.le_refl _) _⟩
theorem new_any (x e : Int) (w : World) (h1 : -9223372036854775808 ≤ x) (h2 : x ≤ 9223372036854775807) :
    Calls Try.prog 16 #[.int .i64 x, .int .i32 e] w fun r w' => ∃ g, r = .returned (.agg #[.pointer (some ⟨g, 0, none⟩), .int .i32 e]) ∧ Is1 w' w.heap.size g (decide (x < 0)) x.natAbs ∧ Below w.heap.size w w' := by
  have HB := Lib.hid (fun W => newInt_any x W h1 h2)
  generalize decide (x < 0) = neg at HB ⊢
  generalize x.natAbs = n at HB ⊢
  go_enter Try.func16, Try.ntmps16
  go_wp2_with (first | (go_at_call 27; go_must (refine (HB.out _).mono ?_); rintro e w1 ⟨g, rfl, hi, hb⟩; obtain ⟨⟨c0, c1, f0, f1, hz⟩, hb1⟩ := made2 hb; have HI := Lib.hid hi; have HW := Lib.hid hb1; clear hb hi hb1))
  exact bodyPost_ret (v := .agg #[.pointer (some ⟨g, 0, none⟩), .int .i32 e]) (by simp [results, Try.results16, go_sem, c0, c1, f0, f1, hz]) rfl ⟨_, rfl, ((HI.out.set (by simp) _).set (by simp) _).lower (by simp), (HW.out.setCell (Nat.le_refl _) _).setCell (Nat.le_refl _) _⟩

theorem getValue_any (g : Nat) (e : Int) (w : World) :
    Calls Try.prog 34 #[.agg #[.pointer (some ⟨g, 0, none⟩), .int .i32 e]] w fun r w' => r = .returned (.pointer (some ⟨g, 0, none⟩)) ∧ Below w.heap.size w w' := by
  go_enter Try.func34, Try.ntmps34
  go_wp2
  go_ret
  exact ⟨rfl, (Below.refl _ _).alloc (Nat.le_refl _) _⟩
theorem zzValue_any (g : Nat) (e : Int) (w : World) :
    Calls Try.prog 25 #[.agg #[.pointer (some ⟨g, 0, none⟩), .int .i32 e]] w fun r w' => r = .returned (.pointer (some ⟨g, 0, none⟩)) ∧ Below w.heap.size w w' := by
  have HG := Lib.hid (fun W => getValue_any g e W)
  go_enter Try.func25, Try.ntmps25
  go_wp2_with (first | (go_at_call 34; go_must (refine (HG.out _).mono ?_); rintro e w1 ⟨rfl, hb⟩; have HB := Lib.hid (below_one _ hb); clear hb))
  go_ret
  exact ⟨rfl, HB.out⟩
theorem exponent_any (g : Nat) (e : Int) (w : World) :
    Calls Try.prog 26 #[.agg #[.pointer (some ⟨g, 0, none⟩), .int .i32 e]] w fun r w' => r = .returned (.int .i32 e) ∧ Below w.heap.size w w' := by
  go_enter Try.func26, Try.ntmps26
  go_wp2
  go_ret
  exact ⟨rfl, (Below.refl _ _).alloc (Nat.le_refl _) _⟩

/-- What is held in the middle of 'dec'. -/
structure Held (w w1 : World) (g : Nat) (e : Int) (neg : Bool) (ws : List Int) : Prop where
  c0 : w1.cell? ⟨w.heap.size, 0, none⟩ = some (.pointer (some ⟨g, 0, none⟩))
  c1 : w1.cell? ⟨w.heap.size, 1, none⟩ = some (.int .i32 e)
  d0 : w1.cell? ⟨w.heap.size + 1, 0, none⟩ = some (.string ⟨#[]⟩)
  d1 : w1.cell? ⟨w.heap.size + 1, 1, none⟩ = some (.int .i64 0)
  f0 : w1.frozen? ⟨w.heap.size + 1, 0, none⟩ = false
  f1 : w1.frozen? ⟨w.heap.size + 1, 1, none⟩ = false
  lt : w.heap.size + 1 < w1.heap.size
  int : IsInt w1 g neg ws
  below : Below w.heap.size w w1
theorem _root_.Go.Proofs.Ythkmgjkajllemaa.Big.IsInt.below {w w1 : World} {g : Nat} {neg : Bool} {ws : List Int} (h : IsInt w g neg ws) (hb : Below w.heap.size w w1) : IsInt w1 g neg ws := by
  obtain ⟨h0, A, c, h1, h2, h3⟩ := h
  exact ⟨pw_cell_below hb h0, A, c, pw_cell_below hb h1, h2, Kd.C_below h3 hb⟩
theorem Held.call {w w1 w2 : World} {g : Nat} {e : Int} {neg : Bool} {ws : List Int} (h : Held w w1 g e neg ws) (hb : Below w1.heap.size w1 w2) : Held w w2 g e neg ws :=
  ⟨pw_cell_below hb h.c0, pw_cell_below hb h.c1, pw_cell_below hb h.d0, pw_cell_below hb h.d1, (hb.frozen (p := ⟨w.heap.size + 1, 0, none⟩) h.lt).trans h.f0, (hb.frozen (p := ⟨w.heap.size + 1, 1, none⟩) h.lt).trans h.f1, Nat.lt_of_lt_of_le h.lt hb.size, h.int.below hb, below_by h.below hb⟩

set_option maxHeartbeats 1000000 in
theorem dec_any (g : Nat) (e : Int) (neg : Bool) (ws : List Int) (N : Nat) (w : World) (hI : IsInt w g neg ws) (hw : ∀ x ∈ ws, 0 ≤ x ∧ x < 18446744073709551616) (hl : ws.length < 1000000) (hN : v64 ws = N) (hdl : (decs N).length < 1000000000) (h1 : -2147483648 ≤ e) (h2 : e ≤ 2147483647) :
    Calls Try.prog 15 #[.agg #[.pointer (some ⟨g, 0, none⟩), .int .i32 e]] w fun r w' => r = .returned (.agg #[.string (textZ neg N), .int .i64 e]) ∧ Below w.heap.size w w' := by
  have HZ := Lib.hid (fun W => zzValue_any g e W)
  have HE := Lib.hid (fun W => exponent_any g e W)
  have HD := Lib.hid (fun W hW => digits_any g neg ws W hW hw hl N hN hdl)
  have HH : Hid (Held w ((w.alloc (.cells #[.pointer (some ⟨g, 0, none⟩), .int .i32 e] 50)).alloc (.cells #[.string ⟨#[]⟩, .int .i64 0] 24)) g e neg ws) :=
    ⟨by simp, by simp, by simp, by simp, by simp, by simp, by simp, (hI.below ((Below.refl _ _).alloc (Nat.le_refl _) _)).below ((Below.refl _ _).alloc (Nat.le_refl _) _), ((Below.refl _ _).alloc (Nat.le_refl _) _).alloc (by simp) _⟩
  clear hI hw hN hl hdl
  generalize textZ neg N = txt at HD ⊢
  go_enter Try.func15, Try.ntmps15
  go_wp2
  obtain ⟨W, hW⟩ : ∃ W, (w.alloc (.cells #[.pointer (some ⟨g, 0, none⟩), .int .i32 e] 50)).alloc (.cells #[.string ⟨#[]⟩, .int .i64 0] 24) = W := ⟨_, rfl⟩
  rw [hW] at HH ⊢
  clear hW
  have HHd := Lib.hid (HH.out.call (below_drew (Below.refl _ _)))
  have c0 := HH.out.c0
  have c1 := HH.out.c1
  clear HH
  have hwr : IntKind.i64.wrap e = e := IntWalk.i64_in _ (by omega)
  go_region_with (first | (go_at_call 25; go_must (refine (HZ.out _).mono ?_); rintro r w2 ⟨rfl, hb⟩; have HH2 := Lib.hid (HHd.out.call hb); have c0' := HH2.out.c0; have c1' := HH2.out.c1; clear hb) | (go_at_call 24; go_must (refine (HD.out _ HH2.out.int).mono ?_); rintro r w3 ⟨rfl, hb⟩; have HH3 := Lib.hid (HH2.out.call hb); have c0'' := HH3.out.c0; have c1'' := HH3.out.c1; clear hb) | (go_at_call 26; go_must (refine (HE.out _).mono ?_); rintro r w4 ⟨rfl, hb⟩; obtain ⟨_, _, d0, d1, f0, f1, hz, _, hB⟩ := HH3.out.call hb; have HB := Lib.hid hB; clear hb hB))
  all_goals (go_wp2; exact bodyPost_ret (v := .agg #[.string txt, .int .i64 e]) (by simp [results, Try.results15, go_sem, d0, d1, f0, f1, hz]) rfl ⟨rfl, (HB.out.setCell (Nat.le_succ _) _).setCell (Nat.le_succ _) _⟩)
theorem dec1_any (g : Nat) (e : Int) (neg : Bool) (n b : Nat) (w : World) (hI : Is1 w b g neg n) (hn : n < 18446744073709551616) (h1 : -2147483648 ≤ e) (h2 : e ≤ 2147483647) :
    Calls Try.prog 15 #[.agg #[.pointer (some ⟨g, 0, none⟩), .int .i32 e]] w fun r w' => r = .returned (.agg #[.string (textZ neg n), .int .i64 e]) ∧ Below w.heap.size w w' := by
  have hd := decs_length 20 n (by omega)
  have hl := ws1_length n
  refine dec_any g e neg (ws1 n) n w hI.int ?_ (by omega) (v64_ws1 n) (by omega) h1 h2
  intro x hx
  unfold ws1 at hx
  split at hx
  · simp at hx
  · simp at hx; omega
end Go.Proofs.Ythkmgjkajllemaa.DecMake
