/- What the multiplication of a big number's words computes are words, whichever. -/
import Derived.Test.YthkmgjkajllemaaDoorTx
import Derived.WalkSpells
import Derived.Laws.Externs
namespace Go.Proofs.YthkmgjkajllemaaDoor.Mw
open Go.RowKit Go.Proofs.YthkmgjkajllemaaDoorW.PrintWords Go.Proofs.YthkmgjkajllemaaDoorW.PrintLast Go.Proofs.YthkmgjkajllemaaDoorW.PrintMore Go.Proofs.YthkmgjkajllemaaDoor.Tx
set_option linter.unusedVariables false
set_option linter.unusedSimpArgs false

/-- A word of 64 bits. -/
def W64 (x : Int) : Prop := 0 ≤ x ∧ x < 18446744073709551616
theorem wrap_W64 (x : Int) : W64 (IntKind.u64.wrap x) := by
  unfold W64
  rw [IntKind.wrap_u64]
  omega

set_option maxHeartbeats 1000000 in
set_option maxRecDepth 100000 in
theorem mul64_any (x y : Int) (hx : W64 x) (hy : W64 y) (w : World) :
    Calls Tryd.prog 160 #[.int .u64 x, .int .u64 y] w fun e w' => ∃ a b : Int, e = .returned (.tuple #[.int .u64 a, .int .u64 b]) ∧ W64 a ∧ W64 b ∧ Below w.heap.size w w' := by
  have HX := Aside0.mk hx
  have HY := Aside0.mk hy
  clear hx hy
  go_enter Tryd.func160, Tryd.ntmps160
  go_wp2
  go_ret2
  exact ⟨_, _, rfl, wrap_W64 _, wrap_W64 _, Below.refl _ _⟩
theorem mul_any (x y : Int) (hx : W64 x) (hy : W64 y) (w : World) :
    Calls Tryd.prog 157 #[.int .u64 x, .int .u64 y] w fun e w' => ∃ a b : Int, e = .returned (.tuple #[.int .u64 a, .int .u64 b]) ∧ W64 a ∧ W64 b ∧ Below w.heap.size w w' := by
  have HM := Lib.hid (fun W => mul64_any x y hx hy W)
  clear hx hy
  go_enter Tryd.func157, Tryd.ntmps157
  go_wp2_with (first | (go_at_call 160; go_must (refine (HM.out _).mono ?_); rintro e w2 ⟨a, b, rfl, ha, hb, hw⟩; have HA := Aside0.mk ha; have HBB := Aside0.mk hb; have HW := Aside0.mk hw; clear ha hb hw))
  go_ret2
  exact ⟨_, _, rfl, HA.out, HBB.out, HW.out⟩
theorem run_add (x y : Nat) (w : World) :
    (callFunc 162 #[.int .u64 x, .int .u64 y, .int .u64 0]).run Tryd.prog w =
      .ok (.value (.tuple #[.int .u64 (((x + y) % 18446744073709551616 : Nat) : Int), .int .u64 (((x + y) / 18446744073709551616 : Nat) : Int)])) w := by
  rw [run_callFunc_extern Tryd.func162 (by kernel_rfl) (by kernel_rfl) (by kernel_rfl) (e := add64Entry) (by kernel_rfl), run_add64 x y 0 (by omega) (by omega) (by omega) (by omega)]
  simp only [Result.andThen]
  congr 5 <;> omega
set_option maxRecDepth 100000 in
theorem add_any (x y : Nat) (hx : x < 18446744073709551616) (hy : y < 18446744073709551616) (w : World) :
    Calls Tryd.prog 158 #[.int .u64 x, .int .u64 y, .int .u64 0] w fun e w' => ∃ a b : Int, e = .returned (.tuple #[.int .u64 a, .int .u64 b]) ∧ W64 a ∧ W64 b ∧ Below w.heap.size w w' := by
  have HM := run_add x y w
  have h1 : W64 (((x + y) % 18446744073709551616 : Nat) : Int) := by unfold W64; omega
  have h2 : W64 (((x + y) / 18446744073709551616 : Nat) : Int) := by unfold W64; omega
  generalize (((x + y) % 18446744073709551616 : Nat) : Int) = a at *
  generalize (((x + y) / 18446744073709551616 : Nat) : Int) = b at *
  have H1 := Aside0.mk h1
  have H2 := Aside0.mk h2
  clear h1 h2 hx hy
  go_enter Tryd.func158, Tryd.ntmps158
  go_wp2
  go_ret2
  exact ⟨_, _, rfl, H1.out, H2.out, Below.refl _ _⟩
set_option maxRecDepth 100000 in
theorem mulAdd_any (x y c : Int) (hx : W64 x) (hy : W64 y) (hc : W64 c) (w : World) :
    Calls Tryd.prog 154 #[.int .u64 x, .int .u64 y, .int .u64 c] w fun e w' => ∃ a b : Int, e = .returned (.tuple #[.int .u64 a, .int .u64 b]) ∧ W64 a ∧ W64 b ∧ Below w.heap.size w w' := by
  have HM := Lib.hid (fun W => mul_any x y hx hy W)
  have HA : Hid (∀ p q : Int, W64 p → W64 q → ∀ W, Calls Tryd.prog 158 #[.int .u64 p, .int .u64 q, .int .u64 0] W fun e w' => ∃ a b : Int, e = .returned (.tuple #[.int .u64 a, .int .u64 b]) ∧ W64 a ∧ W64 b ∧ Below W.heap.size W w') := by
    intro p q hp hq W
    obtain ⟨p', rfl⟩ := Int.eq_ofNat_of_zero_le hp.1
    obtain ⟨q', rfl⟩ := Int.eq_ofNat_of_zero_le hq.1
    unfold W64 at hp hq
    exact add_any p' q' (by omega) (by omega) W
  have HC := Aside0.mk hc
  clear hx hy hc
  go_enter Tryd.func154, Tryd.ntmps154
  go_wp2_with fail
  refine (HM.out _).mono ?_
  rintro e w2 ⟨a, b, rfl, ha, hb, hw⟩
  have H1 := Aside0.mk ha
  have H2 := Aside0.mk hb
  have HW := Aside0.mk hw
  clear ha hb hw
  go_wp2_with fail
  refine (HA.out _ _ H2.out HC.out _).mono ?_
  rintro e w3 ⟨a', b', rfl, ha, hb, hw⟩
  have H3 := Aside0.mk ha
  have H4 := Aside0.mk hb
  have HW3 := Aside0.mk (HW.out.trans (hw.mono HW.out.size))
  clear ha hb hw
  go_wp2_with fail
  go_ret2
  exact ⟨_, _, rfl, wrap_W64 _, H3.out, HW3.out⟩

/-- A block of words. -/
structure Ints (w : World) (g cap : Nat) : Prop where
  blk : ∃ cells, w.heap[g]? = some (.cells cells 144 (0, 0)) ∧ cells.size = cap ∧ ∀ i, i < cap → ∃ x : Int, cells[i]? = some (.int .u64 x) ∧ W64 x
theorem Ints.lt {w : World} {g cap : Nat} (h : Ints w g cap) : g < w.heap.size := by
  obtain ⟨cells, h1, -⟩ := h
  exact blk_lt h1
theorem Ints.below {w w1 : World} {g cap : Nat} (h : Ints w g cap) (hb : Below w.heap.size w w1) : Ints w1 g cap := by
  obtain ⟨cells, h1, h2⟩ := h
  exact ⟨cells, blk_below h1 hb, h2⟩
theorem Ints.cell {w : World} {g cap : Nat} (h : Ints w g cap) (i : Nat) (hi : i < cap) : ∃ x : Int, w.cell? ⟨g, i, none⟩ = some (.int .u64 x) ∧ w.frozen? ⟨g, i, none⟩ = false ∧ W64 x := by
  obtain ⟨cells, h1, h2, h3⟩ := h
  obtain ⟨x, hx, hw⟩ := h3 i hi
  exact ⟨x, (blk_cell h1 i).trans hx, blk_frozen h1 i, hw⟩
theorem Ints.set {w : World} {g cap : Nat} (h : Ints w g cap) (g' i : Nat) (v : Int) (hv : W64 v) : Ints (w.setCell ⟨g', i, none⟩ (.int .u64 v)) g cap := by
  obtain ⟨cells, h1, h2, h3⟩ := h
  by_cases hg : g = g'
  · subst hg
    refine ⟨_, blk_set h1 i _, by simpa using h2, fun j hj => ?_⟩
    rw [Array.getElem?_setIfInBounds]
    by_cases hij : i = j
    · subst hij
      rw [if_pos rfl, if_pos (by omega)]
      exact ⟨v, rfl, hv⟩
    · rw [if_neg hij]
      exact h3 j hj
  · exact ⟨cells, blk_far h1 (by exact hg) _, h2, h3⟩

set_option maxHeartbeats 1000000 in
set_option maxRecDepth 100000 in
theorem vww_any (gz gx m cz cx b : Nat) (y r : Int) (w : World) (hy : W64 y) (hr : W64 r) (hz : Ints w gz cz) (hx : Ints w gx cx) (hmz : m ≤ cz) (hmx : m ≤ cx) (hb : b ≤ gz) (hm : m < 1000000) (hbs : b ≤ w.heap.size) :
    Calls Tryd.prog 147 #[.slice (some ⟨gz, 0, none⟩) m cz, .slice (some ⟨gx, 0, none⟩) m cx, .int .u64 y, .int .u64 r] w fun e w' => ∃ c : Int, e = .returned (.int .u64 c) ∧ W64 c ∧ Ints w' gz cz ∧ Ints w' gx cx ∧ Below b w w' := by
  have HM := Lib.hid (fun x c hx hc W => mulAdd_any x y c hx hy hc W)
  have HZ := Aside0.mk hz
  have HX := Aside0.mk hx
  have HR := Aside0.mk hr
  have HB := Aside0.mk (Below.refl b w)
  clear hz hx hr hy
  go_enter Tryd.func147, Tryd.ntmps147
  go_wp2
  go_loopw [8, 19] (fun v8 v19 w' => ∃ (c : Int) (k : Nat), v8 = .int .u64 c ∧ v19 = .int .i64 k ∧ k ≤ m ∧ Aside0 (W64 c) ∧ Aside0 (Ints w' gz cz) ∧ Aside0 (Ints w' gx cx) ∧ Aside0 (Below b w w')) (fun _ v19 _ => m - (intOf v19).toNat)
  case atStart => exact ⟨r, 0, rfl, rfl, by omega, HR, HZ, HX, HB⟩
  case round =>
    clear HZ HX HR HB
    obtain ⟨c, k, rfl, rfl, hk, HC, HZ, HX, HB⟩ := hrel
    by_cases hlt : k < m
    · obtain ⟨x, hx, -, hxw⟩ := HX.out.cell k (by omega)
      have HXW := Aside0.mk hxw
      have hg1 : decide ((k : Int) < (m : Int)) = true := decide_eq_true (by omega)
      clear hxw
      go_wp2_with fail
      refine (HM.out _ _ HXW.out HC.out _).mono ?_
      rintro e w2 ⟨a, b', rfl, ha, hb', hw⟩
      obtain ⟨z, hz, hf, -⟩ := (HZ.out.below hw).cell k (by omega)
      have H1 := Aside0.mk ha
      have HZ2 := Aside0.mk ((HZ.out.below hw).set gz k b' hb')
      have HX2 := Aside0.mk ((HX.out.below hw).set gz k b' hb')
      have HB2 := Aside0.mk ((HB.out.trans (hw.mono (Nat.le_trans hbs HB.out.size))).setCell (p := ⟨gz, k, none⟩) hb (.int .u64 b'))
      clear ha hb' hw hx HZ HX HB
      go_wp2_with fail
      go_roundw
      case rel => exact ⟨a, k + 1, rfl, by go_num, by omega, H1, HZ2, HX2, HB2⟩
      case measure => simp [intOf]; omega
    · obtain rfl : k = m := by omega
      go_wp2
      go_ret
      exact ⟨c, rfl, HC.out, HZ.out, HX.out, HB.out⟩
end Go.Proofs.YthkmgjkajllemaaDoor.Mw
