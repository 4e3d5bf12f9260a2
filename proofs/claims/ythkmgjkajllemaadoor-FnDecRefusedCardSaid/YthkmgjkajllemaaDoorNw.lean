/- Big numbers whose words are whichever: norm, make, setWord, mulAddWW. -/
import Derived.Test.YthkmgjkajllemaaDoorMw
import Derived.Laws.MakeOwn
namespace Go.Proofs.YthkmgjkajllemaaDoor.Mw
open Go.RowKit Go.Proofs.YthkmgjkajllemaaDoorW.PrintWords Go.Proofs.YthkmgjkajllemaaDoorW.PrintLast Go.Proofs.YthkmgjkajllemaaDoorW.PrintMore Go.Proofs.YthkmgjkajllemaaDoor.Tx
set_option linter.unusedVariables false
set_option linter.unusedSimpArgs false

/-- A big number's words: none, or n of a block of words. -/
def NatV (w : World) (b : Nat) (v : Value) (n : Nat) : Prop :=
  (v = .slice none 0 0 ∧ n = 0) ∨ ∃ g cap, v = .slice (some ⟨g, 0, none⟩) n cap ∧ n ≤ cap ∧ cap < 2000000 ∧ b ≤ g ∧ Ints w g cap
theorem NatV.below {w w1 : World} {b : Nat} {v : Value} {n : Nat} (h : NatV w b v n) (hb : Below w.heap.size w w1) : NatV w1 b v n :=
  h.imp id (fun ⟨g, cap, h1, h2, h3, h4, h5⟩ => ⟨g, cap, h1, h2, h3, h4, h5.below hb⟩)
theorem NatV.lower {w : World} {b b' : Nat} {v : Value} {n : Nat} (h : NatV w b v n) (hb : b' ≤ b) : NatV w b' v n :=
  h.imp id (fun ⟨g, cap, h1, h2, h3, h4, h5⟩ => ⟨g, cap, h1, h2, h3, Nat.le_trans hb h4, h5⟩)

set_option maxHeartbeats 1000000 in
set_option maxRecDepth 100000 in
theorem norm_some (g cap n b : Nat) (w : World) (h : Ints w g cap) (hn : n ≤ cap) (hc : cap < 2000000) (hb : b ≤ g) :
    Calls Tryd.prog 133 #[.slice (some ⟨g, 0, none⟩) n cap] w fun e w' => ∃ m, e = .returned (.slice (some ⟨g, 0, none⟩) m cap) ∧ m ≤ n ∧ w' = w := by
  have HI := Aside0.mk h
  clear h
  go_enter Tryd.func133, Tryd.ntmps133
  go_wp2
  go_loop [3] (fun v3 => ∃ i : Nat, v3 = .int .i64 i ∧ i ≤ n) (fun v3 => (intOf v3).toNat)
  case atStart => exact ⟨n, rfl, Nat.le_refl _⟩
  case round =>
    obtain ⟨i, rfl, hi⟩ := hrel
    rcases (by omega : i = 0 ∨ 0 < i) with h0 | h0
    · subst h0
      go_wp2
      go_ret
      exact ⟨0, rfl, by omega, rfl⟩
    · obtain ⟨i, rfl⟩ : ∃ j, i = j + 1 := ⟨i - 1, by omega⟩
      obtain ⟨x, hx, -, hxw⟩ := HI.out.cell i (by omega)
      have hv : ((i + 1 : Nat) : Int) - 1 = i := by omega
      have hp : decide (0 < ((i + 1 : Nat) : Int)) = true := decide_eq_true (by omega)
      by_cases hx0 : x = 0
      · subst hx0
        clear hxw
        go_wp2
        go_round
        case rel => exact ⟨i, by go_num, by omega⟩
        case measure => simp [intOf]
      · have hxb : (x == 0) = false := beq_false_of_ne hx0
        clear hxw hx0
        go_wp2
        go_ret
        exact ⟨i + 1, rfl, by omega, rfl⟩
set_option maxRecDepth 100000 in
theorem norm_none (w : World) :
    Calls Tryd.prog 133 #[.slice none 0 0] w fun e w' => e = .returned (.slice none 0 0) ∧ w' = w := by
  go_enter Tryd.func133, Tryd.ntmps133
  go_wp2
  go_loop [3] (fun v3 => v3 = .int .i64 0) (fun v3 => 0)
  case atStart => exact rfl
  case round =>
    subst hrel
    go_wp2
    go_ret
    exact ⟨rfl, rfl⟩

theorem info144 : (Tryd.prog.info? 144).map (fun i => (i.zero, i.size, i.bytes)) = some (some (.int .u64 0), 1, 8) := by kernel_rfl
theorem made_ints (w : World) (n : Nat) : Ints (w.alloc (.cells (madeCells (Value.int .u64 0).cells n) 144)) w.heap.size n := by
  refine ⟨_, blk_new _ _, size_madeCells _ _, fun i hi => ⟨0, ?_, by unfold W64; omega⟩⟩
  simp [madeCells, Value.cells, hi, Nat.mod_one]
theorem run_makeNat (x y : Int) (n c : Nat) (w : World) (hx : x = n) (hy : y = c) (h : n ≤ c) (hc : c < 2000000) :
    (Instr.makeSlice 130 (.int .i64 x) (.int .i64 y)).run Tryd.prog w = .ok (.slice (some ⟨w.heap.size, 0, none⟩) n c) (w.alloc (.cells (madeCells (Value.int .u64 0).cells c) 144)) := by
  subst hx hy
  obtain ⟨i, hi, hj⟩ := Option.map_eq_some_iff.1 info144
  simp only [Prod.mk.injEq] at hj
  have := run_make w 130 144 i (.int .u64 0) Tryd.underlying130 hi hj.1 .i64 .i64 (n : Int) (c : Int) (by omega) (by omega) (by rw [hj.2.2]; omega) (by omega)
  rw [hj.2.1] at this
  simpa using this

set_option maxHeartbeats 1000000 in
set_option maxRecDepth 100000 in
/-- 'make' of a new block, or of the one that is there. -/
theorem make_any (v : Value) (n m b : Nat) (w : World) (hv : NatV w b v n) (hm1 : 1 ≤ m) (hm : m < 1000000) (hb : b ≤ w.heap.size) :
    Calls Tryd.prog 137 #[v, .int .i64 m] w fun e w' => ∃ g cap, e = .returned (.slice (some ⟨g, 0, none⟩) m cap) ∧ m ≤ cap ∧ cap < 2000000 ∧ b ≤ g ∧ Ints w' g cap ∧ Below w.heap.size w w' := by
  rcases hv with ⟨rfl, rfl⟩ | ⟨g, cap, rfl, hnc, hc, hg, hi⟩
  · have q0 : decide ((m : Int) ≤ 0) = false := decide_eq_false (by omega)
    have q00 : ¬ (m : Int) ≤ 0 := by omega
    rcases (by omega : m = 1 ∨ 1 < m) with h1 | h1
    · subst h1
      have q1 := run_makeNat 1 1 1 1 w rfl rfl (by omega) (by omega)
      have HI := Aside0.mk (made_ints w 1)
      clear hm1 hm
      go_enter Tryd.func137, Tryd.ntmps137
      go_wp2
      go_ret
      exact ⟨w.heap.size, 1, rfl, by omega, by omega, hb, HI.out, (Below.refl _ _).alloc (Nat.le_refl _) _⟩
    · have q1 := run_makeNat m (m + 4) m (m + 4) w rfl (by omega) (by omega) (by omega)
      have q2 : ((m : Int) == 1) = false := beq_false_of_ne (by omega)
      have HI := Aside0.mk (made_ints w (m + 4))
      go_enter Tryd.func137, Tryd.ntmps137
      go_wp2
      go_ret
      exact ⟨w.heap.size, m + 4, rfl, by omega, by omega, hb, HI.out, (Below.refl _ _).alloc (Nat.le_refl _) _⟩
  · have HI0 := Aside0.mk hi
    clear hi
    by_cases hmc : m ≤ cap
    · have q0 : decide ((m : Int) ≤ (cap : Int)) = true := decide_eq_true (by omega)
      go_enter Tryd.func137, Tryd.ntmps137
      go_wp2
      go_ret
      exact ⟨g, cap, rfl, hmc, hc, hg, HI0.out, Below.refl _ _⟩
    · have q0 : decide ((m : Int) ≤ (cap : Int)) = false := decide_eq_false (by omega)
      rcases (by omega : m = 1 ∨ 1 < m) with h1 | h1
      · subst h1
        have q1 := run_makeNat 1 1 1 1 w rfl rfl (by omega) (by omega)
        have HI := Aside0.mk (made_ints w 1)
        clear hm1 hm
        go_enter Tryd.func137, Tryd.ntmps137
        go_wp2
        go_ret
        exact ⟨w.heap.size, 1, rfl, by omega, by omega, hb, HI.out, (Below.refl _ _).alloc (Nat.le_refl _) _⟩
      · have q1 := run_makeNat m (m + 4) m (m + 4) w rfl (by omega) (by omega) (by omega)
        have q2 : ((m : Int) == 1) = false := beq_false_of_ne (by omega)
        have HI := Aside0.mk (made_ints w (m + 4))
        go_enter Tryd.func137, Tryd.ntmps137
        go_wp2
        go_ret
        exact ⟨w.heap.size, m + 4, rfl, by omega, by omega, hb, HI.out, (Below.refl _ _).alloc (Nat.le_refl _) _⟩

set_option maxHeartbeats 1000000 in
set_option maxRecDepth 100000 in
theorem setWord_any (v : Value) (n b : Nat) (x : Int) (w : World) (hv : NatV w b v n) (hx : W64 x) (hb : b ≤ w.heap.size) :
    Calls Tryd.prog 136 #[v, .int .u64 x] w fun e w' => ∃ v' n', e = .returned v' ∧ NatV w' b v' n' ∧ n' ≤ 1 ∧ Below b w w' := by
  by_cases h0 : x = 0
  · subst h0
    rcases hv with ⟨rfl, rfl⟩ | ⟨g, cap, rfl, hnc, hc, hg, hi⟩
    · go_enter Tryd.func136, Tryd.ntmps136
      go_wp2
      go_ret
      exact ⟨_, 0, rfl, .inl ⟨rfl, rfl⟩, by omega, Below.refl _ _⟩
    · have HI0 := Aside0.mk hi
      clear hi
      go_enter Tryd.func136, Tryd.ntmps136
      go_wp2
      go_ret
      exact ⟨_, 0, rfl, .inr ⟨g, cap, rfl, by omega, hc, hg, HI0.out⟩, by omega, Below.refl _ _⟩
  · have q0 : (x == 0) = false := beq_false_of_ne h0
    have HM := Lib.hid (make_any v n 1 b w hv (by omega) (by omega) hb)
    have HX := Aside0.mk hx
    have HVF := Aside0.mk hv
    clear hx h0 hv
    go_enter Tryd.func136, Tryd.ntmps136
    go_wp2_with fail
    refine HM.out.mono ?_
    rintro e w2 ⟨g, cap, rfl, h1, h2, h3, hi, hw⟩
    obtain ⟨y, hy, hf, -⟩ := hi.cell 0 (by omega)
    have HI2 := Aside0.mk (hi.set g 0 x HX.out)
    have HB2 := Aside0.mk ((hw.mono hb).setCell (p := ⟨g, 0, none⟩) h3 (.int .u64 x))
    clear hi hw
    go_wp2_with fail
    go_ret
    exact ⟨_, 1, rfl, .inr ⟨g, cap, rfl, h1, h2, h3, HI2.out⟩, by omega, HB2.out⟩

theorem vww138 (gz gx m cz cx b : Nat) (y r : Int) (w : World) (hy : W64 y) (hr : W64 r) (hz : Ints w gz cz) (hx : Ints w gx cx) (hmz : m ≤ cz) (hmx : m ≤ cx) (hb : b ≤ gz) (hm : m < 1000000) (hbs : b ≤ w.heap.size) :
    Calls Tryd.prog 138 #[.slice (some ⟨gz, 0, none⟩) m cz, .slice (some ⟨gx, 0, none⟩) m cx, .int .u64 y, .int .u64 r] w fun e w' => ∃ c : Int, e = .returned (.int .u64 c) ∧ W64 c ∧ Ints w' gz cz ∧ Ints w' gx cx ∧ Below b w w' := by
  have HM := Lib.hid (vww_any gz gx m cz cx b y r w hy hr hz hx hmz hmx hb hm hbs)
  clear hz hx hr hy
  go_enter Tryd.func138, Tryd.ntmps138
  go_wp2_with (first | (go_at_call 147; go_must (refine HM.out.mono ?_); rintro e w2 ⟨c, rfl, hc, h1, h2, h3⟩; have H1 := Aside0.mk hc; have H2 := Aside0.mk h1; have H3 := Aside0.mk h2; have H4 := Aside0.mk h3; clear hc h1 h2 h3))
  go_ret
  exact ⟨c, rfl, H1.out, H2.out, H3.out, H4.out⟩

set_option maxHeartbeats 1000000 in
set_option maxRecDepth 100000 in
theorem mulAddWW_any (v : Value) (n b : Nat) (y r : Int) (w : World) (hv : NatV w b v n) (hn : n < 1000) (hy : W64 y) (hy0 : y ≠ 0) (hr : W64 r) (hb : b ≤ w.heap.size) :
    Calls Tryd.prog 130 #[v, v, .int .u64 y, .int .u64 r] w fun e w' => ∃ v' n', e = .returned v' ∧ NatV w' b v' n' ∧ n' ≤ n + 1 ∧ Below b w w' := by
  have q0 : (y == 0) = false := beq_false_of_ne hy0
  have HS := Lib.hid (setWord_any v n b r w hv hr hb)
  have HM := Lib.hid (make_any v n (n + 1) b w hv (by omega) (by omega) hb)
  by_cases h0 : n = 0
  · subst h0
    obtain ⟨A, c, rfl⟩ : ∃ A c, v = .slice A 0 c := by
      rcases hv with ⟨rfl, -⟩ | ⟨g, cap, rfl, -⟩
      · exact ⟨_, _, rfl⟩
      · exact ⟨_, _, rfl⟩
    clear hv hr hy
    go_enter Tryd.func130, Tryd.ntmps130
    go_wp2_with fail
    refine HS.out.mono ?_
    rintro e w2 ⟨v', n', rfl, h1, h2, h3⟩
    have H1 := Aside0.mk h1
    have H3 := Aside0.mk h3
    clear h1 h3
    go_wp2_with fail
    go_ret
    exact ⟨_, n', rfl, H1.out, by omega, H3.out⟩
  · rcases hv with ⟨rfl, rfl⟩ | ⟨g, cap, rfl, hnc, hc, hg, hi⟩
    · exact absurd rfl h0
    · have q1 : ((n : Int) == 0) = false := beq_false_of_ne (by omega)
      have HI0 := Aside0.mk hi
      have HY := Aside0.mk hy
      have HR := Aside0.mk hr
      clear hi hy hr
      go_enter Tryd.func130, Tryd.ntmps130
      go_wp2_with fail
      refine HM.out.mono ?_
      rintro e w2 ⟨g2, cap2, rfl, h1, h2, h3, hi2, hw⟩
      have HV := Lib.hid (vww138 g2 g n cap2 cap b y r)
      have HW := Aside0.mk hw
      have HI2 := Aside0.mk hi2
      clear hw hi2
      go_wp2_with fail
      refine (HV.out w2 HY.out HR.out HI2.out (HI0.out.below HW.out) (by omega) (by omega) h3 (by omega) (Nat.le_trans hb HW.out.size)).mono ?_
      rintro e w3 ⟨c, rfl, hcw, hz3, hx3, hb3⟩
      obtain ⟨z, hz, hf, -⟩ := hz3.cell n (by omega)
      have HN := Lib.hid (norm_some g2 cap2 (n + 1) b (w3.setCell ⟨g2, n, none⟩ (.int .u64 c)) (hz3.set g2 n c hcw) h1 h2 h3)
      have HZ3 := Aside0.mk (hz3.set g2 n c hcw)
      have HB3 := Aside0.mk (((HW.out.mono hb).trans hb3).setCell (p := ⟨g2, n, none⟩) h3 (.int .u64 c))
      clear hcw hz3 hx3 hb3
      go_wp2_with fail
      refine HN.out.mono ?_
      rintro e w4 ⟨m, rfl, hm, rfl⟩
      go_wp2_with fail
      go_ret
      exact ⟨_, m, rfl, .inr ⟨g2, cap2, rfl, by omega, h2, h3, HZ3.out⟩, hm, HB3.out⟩
end Go.Proofs.YthkmgjkajllemaaDoor.Mw
