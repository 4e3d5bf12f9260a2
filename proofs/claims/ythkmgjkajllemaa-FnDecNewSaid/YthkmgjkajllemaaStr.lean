/- The reference's text of a natural number is its decimal digits, and it tells how many there are. -/
import Derived.Test.YthkmgjkajllemaaPNatFromx
import Derived.Test.YthkmgjkajllemaaNum
import Derived.Outline
import Derived.RegionTactic
namespace Go.Proofs.Ythkmgjkajllemaa.Str
open Go.RowKit Go.Proofs.YthkmgjkajllemaaW.PrintWords Go.Proofs.YthkmgjkajllemaaW.PrintLast Go.Proofs.YthkmgjkajllemaaW.PrintMore Go.Proofs.Ythkmgjkajllemaa.Num
set_option linter.unusedVariables false
set_option linter.unusedSimpArgs false

theorem info5 : (Try.prog.info? 5).map (fun i => (i.zero, i.size, i.bytes)) = some (some (.int .u8 0), 1, 1) := by kernel_rfl

/-- A natural number in memory: a slice of its limbs. -/
def IsNat (w : World) (v : Value) (n : Nat) : Prop := ∃ A c, v = .slice A (limbs n).length c ∧ (limbs n).length ≤ c ∧ Kd.C (Kd.int .u32) w A (limbs n).length (limbs n)
theorem IsNat.below {w w1 : World} {v : Value} {n : Nat} (h : IsNat w v n) (hb : Below w.heap.size w w1) : IsNat w1 v n := by
  obtain ⟨A, c, e, hc, hr⟩ := h
  exact ⟨A, c, e, hc, Kd.C_below hr hb⟩

theorem natFrom_go (d : Nat) : ∀ (k x : Nat) (acc : List Int), d < k → x < 1000000000 ^ d → x < 18446744073709551616 → acc.length + d < 35184372088832 →
    PNatFrom.spec_NatFrom.l0 k (x : Int) acc = some (acc ++ limbs x) := by
  induction d with
  | zero =>
    intro k x acc hk hx hb hl
    obtain ⟨k, rfl⟩ : ∃ m, k = m + 1 := ⟨k - 1, by omega⟩
    have : x = 0 := by simpa using hx
    subst this
    simp [PNatFrom.spec_NatFrom.l0, limbs_zero]
  | succ d ih =>
    intro k x acc hk hx hb hl
    obtain ⟨k, rfl⟩ : ∃ m, k = m + 1 := ⟨k - 1, by omega⟩
    by_cases h0 : x = 0
    · subst h0
      simp [PNatFrom.spec_NatFrom.l0, limbs_zero]
    · have e1 : IntKind.u64.wrap (Int.tdiv (x : Int) 1000000000) = ((x / 1000000000 : Nat) : Int) := by
        rw [Int.tdiv_eq_ediv_of_nonneg (by omega), IntWalk.u64_in _ (by omega)]
        omega
      have e2 : (Int.tmod (x : Int) 1000000000) % 4294967296 = ((x % 1000000000 : Nat) : Int) := by
        rw [Int.tmod_eq_emod_of_nonneg (by omega)]
        omega
      rw [PNatFrom.spec_NatFrom.l0, if_pos (by omega), if_pos (by omega), e1, e2, ih k _ _ (by omega) (by
        rw [Nat.pow_succ] at hx
        exact Nat.div_lt_of_lt_mul (by rw [Nat.mul_comm]; exact hx)) (by omega) (by simp; omega), limbs_pos (show 0 < x by omega)]
      simp

/-- NatFrom: the limbs of a number. -/
theorem natFrom_any (x : Nat) (w : World) (h : x < 18446744073709551616) :
    Calls Try.prog 9 #[.int .u64 x] w fun e w' => ∃ v, e = .returned v ∧ IsNat w' v x ∧ Below w.heap.size w w' := by
  have e : PNatFrom.spec_NatFrom.f 4 (x : Int) = some (limbs x) := by
    unfold PNatFrom.spec_NatFrom.f
    rw [natFrom_go 3 4 x [] (by omega) (by omega) h (by simp)]
    rfl
  refine (PNatFrom.spec_NatFrom.calls 4 x _ w e).mono ?_
  rintro e w' ⟨v, rfl, hr, hb⟩
  obtain ⟨A, c, rfl, hc, hr⟩ := Kd.R_reads hr
  exact ⟨_, rfl, ⟨A, c, rfl, hc, hr⟩, hb⟩

set_option maxHeartbeats 4000000 in
set_option maxRecDepth 100000 in
/-- The text of a number. -/
theorem natString_any (n : Nat) (v : Value) (w : World) (hv : IsNat w v n) (hn : (limbs n).length < 1000000000) :
    Calls Try.prog 39 #[v] w fun e w' => e = .returned (.string (text n)) ∧ Below w.heap.size w w' := by
  obtain ⟨A, c, rfl, hc, hr⟩ := hv
  have HR := Aside0.mk hr
  have HB := Aside0.mk (Below.refl w.heap.size w)
  clear hr
  go_enter Try.func39, Try.ntmps39
  go_wp2
  go_loopw [3, 11] (fun v3 v11 w' => ∃ (xs : List Int) (i : Nat), v11 = .int .i64 i ∧ i ≤ (limbs n).length ∧ Aside0 (xs ++ decs (rest n i) = decs n) ∧ xs.length ≤ 9 * i ∧ Aside0 (Kd.R (Kd.int .u8) 5 w' w.heap.size (fun _ => True) v3 xs) ∧ Aside0 (Below w.heap.size w w')) (fun _ v11 _ => (limbs n).length - (intOf v11).toNat)
  case atStart => exact ⟨[], 0, rfl, Nat.zero_le _, ⟨by rw [rest_zero]; rfl⟩, by simp, ⟨Kd.R_nil _ _ _ _ _⟩, HB⟩
  case round =>
    obtain ⟨xs, i, rfl, hi, HX, hxl, HO, HB⟩ := hrel
    by_cases hlt : i < (limbs n).length
    · obtain ⟨hx, hpos⟩ := limbs_at n i hlt
      obtain ⟨ad, e0, hc0⟩ := Kd.at_int HR.out (i : Int) (by omega) (by omega)
      have hc1 := (HB.out.cell (World.block_lt_of_cell? w _ hc0)).trans hc0
      have hq := rest_pos n (i + 1)
      rw [rest_succ] at hq
      obtain ⟨x, hx2⟩ : ∃ x, rest n i % 1000000000 = x := ⟨_, rfl⟩
      obtain ⟨q, hq2⟩ : ∃ q, rest n i / 1000000000 = q := ⟨_, rfl⟩
      have hx9 : x < 1000000000 := by omega
      rw [hq2] at hq
      unfold rd at hc1
      rw [Int.toNat_natCast, hx, hx2] at hc1
      subst e0
      have HX1 : Aside0 (xs ++ remd 0 x q = decs n) := ⟨by rw [← HX.out, remd_start (rest n i), hx2, hq2]⟩
      have HQ : Aside0 (rest n (i + 1) = q) := ⟨by rw [rest_succ, hq2]⟩
      clear hc0 hx hx2 hq2 HX
      go_wp2
      go_loopw [3, 5, 6] (fun v3 v5 v6 w' => ∃ (ys : List Int) (y j : Nat), v5 = .int .u32 y ∧ v6 = .int .i64 j ∧ j ≤ 9 ∧ y < 10 ^ (9 - j) ∧ Aside0 (ys ++ remd j y q = decs n) ∧ ys.length ≤ 9 * i + j ∧ Aside0 (Kd.R (Kd.int .u8) 5 w' w.heap.size (fun _ => True) v3 ys) ∧ Aside0 (Below w.heap.size w w')) (fun _ _ v6 _ => 9 - (intOf v6).toNat)
      case atStart => exact ⟨xs, x, 0, rfl, rfl, by omega, by omega, HX1, by omega, HO, HB⟩
      case round =>
        clear HX1 hx9 hxl HO HB hc1
        obtain ⟨ys, y, j, rfl, rfl, hj, hy, HX, hyl, HO, HB⟩ := hrel
        have hy9 : y < 1000000000 := Nat.lt_of_lt_of_le hy (Nat.pow_le_pow_right (by omega) (show 9 - j ≤ 9 by omega))
        by_cases hj9 : j < 9
        · by_cases hmore : 0 < y ∨ 0 < q
          · have hstep := remd_step j y q hj9 hmore
            have hy' : y / 10 < 10 ^ (9 - (j + 1)) := by
              rw [show 9 - j = (9 - (j + 1)) + 1 by omega, Nat.pow_succ] at hy
              omega
            have HX2 : Aside0 ((ys ++ [((48 + y % 10 : Nat) : Int)]) ++ remd (j + 1) (y / 10) q = decs n) := ⟨by rw [← HX.out, hstep]; simp⟩
            clear hstep hy
            have hj9b : decide ((j : Int) < 9) = true := decide_eq_true (by omega)
            by_cases hy0 : 0 < y
            · go_wp2_with (first | ((with_reducible refine gate_builtin (b := .append) (xs := #[.tmp 31, .tmp 36]) rfl ?_); at_builtin; refine Kd.R_append (Kd.int .u8) (w0 := w) w.heap.size rfl (.tmp 31) (.tmp 36) 70 5 (.int .u8 0) 1 rfl Try.underlying70 info5 rfl (by decide) (by omega) u3 ys (48 + (y : Int) % 10) [.int .u8 (48 + (y : Int) % 10)] (fun _ => True) (fun _ => False) rfl rfl ?aP (fun _ hk => hk.elim) ?aF ?aO ?aB ?aS ?aL ?_; (case aP => exact rfl); (case aB => exact HB.out); (case aF => exact (fun _ _ => trivial)); (case aO => exact HO.out); (case aS => exact HB.out.size); (case aL => omega); intro v1 w1 ho hb hg hat; have HO1 := Aside0.mk ho; have HB1 := Aside0.mk hb; clear ho hb hg hat HO HB))
              go_roundw
              case rel => exact ⟨_, y / 10, j + 1, by go_num, by go_num, by omega, hy', HX2, by simp; omega, HO1, HB1⟩
              case measure => simp [intOf]; omega
            · obtain rfl : y = 0 := by omega
              have hq0 : i + 1 < (limbs n).length := hq.2 (by omega)
              go_wp2_with (first | ((with_reducible refine gate_builtin (b := .append) (xs := #[.tmp 31, .tmp 36]) rfl ?_); at_builtin; refine Kd.R_append (Kd.int .u8) (w0 := w) w.heap.size rfl (.tmp 31) (.tmp 36) 70 5 (.int .u8 0) 1 rfl Try.underlying70 info5 rfl (by decide) (by omega) u3 ys (48) [.int .u8 (48)] (fun _ => True) (fun _ => False) rfl rfl ?aP (fun _ hk => hk.elim) ?aF ?aO ?aB ?aS ?aL ?_; (case aP => exact rfl); (case aB => exact HB.out); (case aF => exact (fun _ _ => trivial)); (case aO => exact HO.out); (case aS => exact HB.out.size); (case aL => omega); intro v1 w1 ho hb hg hat; have HO1 := Aside0.mk ho; have HB1 := Aside0.mk hb; clear ho hb hg hat HO HB))
              go_roundw
              case rel => exact ⟨_, 0, j + 1, by go_num, by go_num, by omega, hy', HX2, by simp; omega, HO1, HB1⟩
              case measure => simp [intOf]; omega
          · obtain rfl : y = 0 := by omega
            have hq0 : ¬ i + 1 < (limbs n).length := fun h => hmore (.inr (hq.1 h))
            have hX3 : Aside0 (ys ++ decs (rest n (i + 1)) = decs n) := ⟨by rw [HQ.out, ← HX.out, show q = 0 by omega, remd_end0]⟩
            have hj9b : decide ((j : Int) < 9) = true := decide_eq_true (by omega)
            go_wp2
            go_roundw
            case rel => exact ⟨ys, i + 1, by go_num, by omega, hX3, by omega, HO, HB⟩
            case measure => simp [intOf]; omega
        · obtain rfl : j = 9 := by omega
          obtain rfl : y = 0 := by simpa using hy
          have hX3 : Aside0 (ys ++ decs (rest n (i + 1)) = decs n) := ⟨by rw [HQ.out, ← HX.out, remd_end9 0 q (by omega)]⟩
          go_wp2
          go_roundw
          case rel => exact ⟨ys, i + 1, by go_num, by omega, hX3, by omega, HO, HB⟩
          case measure => simp [intOf]; omega
    · have hi2 : i = (limbs n).length := by omega
      have hr0 : rest n i = 0 := by
        rcases Nat.eq_zero_or_pos (rest n i) with h | h
        · exact h
        · exact absurd ((rest_pos n i).2 h) hlt
      have HXn : Aside0 (xs = decs n) := ⟨by rw [← HX.out, hr0, decs_zero]; simp⟩
      clear hr0 HX
      subst hi2
      obtain ⟨A3, c3, e3, hc3, hr3⟩ := Kd.R_reads HO.out
      subst e3
      by_cases hn0 : n = 0
      · subst hn0
        have hx0 : xs.length = 0 := by rw [HXn.out, decs_zero]; rfl
        go_wp2
        go_ret
        exact ⟨by simp [text], HB.out⟩
      · have hxp : 0 < xs.length := by rw [HXn.out, decs_pos (by omega)]; simp
        obtain ⟨g, cap, eg, hgb, hgl, _⟩ := Kd.R_form HO.out hxp
        cases eg
        have hb9 : xs.length ≤ 9000000000 := by omega
        clear hgl hc3 hr3
        go_wp2
        go_loopw [7, 8] (fun v7 v8 w' => ∃ (ys : List Int) (i j : Nat), v7 = .int .i64 i ∧ v8 = .int .i64 j ∧ Aside0 (i + j + 1 = xs.length) ∧ i ≤ j + 1 ∧ i ≤ xs.length ∧ j < xs.length ∧ Aside0 (Turned xs ys i) ∧ Aside0 (Kd.R (Kd.int .u8) 5 w' w.heap.size (fun _ => True) (.slice (some ⟨g, 0, none⟩) xs.length c3) ys) ∧ Aside0 (Below w.heap.size w w')) (fun _ v8 _ => (intOf v8).toNat)
        case atStart => exact ⟨xs, 0, xs.length - 1, rfl, by go_num, ⟨by omega⟩, by omega, by omega, by omega, ⟨Turned.start xs⟩, HO, HB⟩
        case round =>
          clear HO HB
          obtain ⟨ys, i, j, rfl, rfl, HS, hij, hil, hjl, HT, HO, HB⟩ := hrel
          have hyl := HT.out.len
          by_cases hlt : i < j
          · obtain ⟨hx1, hf1⟩ := Kd.R_celln 0 HO.out (i : Int) (by omega) (by omega)
            obtain ⟨hx2, hf2⟩ := Kd.R_celln 0 HO.out (j : Int) (by omega) (by omega)
            have HP1 := Kd.R_putn HO.out (i : Int) (ys.getD j 0)
            have HP2 := Kd.R_putn HP1 (j : Int) (ys.getD i 0)
            have HT2 := HT.out.step (by have := HS.out; omega)
            rw [show xs.length - 1 - i = j by have := HS.out; omega] at HT2
            unfold rdOf at hx1 hx2
            simp only [Int.toNat_natCast] at hx1 hx2 hf1 hf2 HP2
            obtain ⟨x1, hx1'⟩ : ∃ x1, ys.getD i 0 = x1 := ⟨_, rfl⟩
            obtain ⟨x2, hx2'⟩ : ∃ x2, ys.getD j 0 = x2 := ⟨_, rfl⟩
            rw [hx1'] at hx1 HP2 HT2
            rw [hx2'] at hx2 HP2 HT2
            have HP3 := Aside0.mk HP2
            have HT3 := Aside0.mk HT2
            clear HP1 HP2 HT2 hx1' hx2' HT HO hyl
            go_wp2
            go_region
            go_wp2
            go_roundw
            case rel => exact ⟨_, i + 1, j - 1, by go_num, by go_num, ⟨by have := HS.out; omega⟩, by omega, by omega, by omega, HT3, ⟨Kd.R_drew HP3.out⟩, ⟨below_drew (below_set (below_set HB.out hgb) hgb)⟩⟩
            case measure => simp [intOf]; omega
          · have hd : ys = xs.reverse := HT.out.done (by have := HS.out; omega)
            have hcv := own_string (P := Try.prog) Try.underlying70 Try.underlying5 Try.underlying9 (Kd.own_of_R HO.out)
            have ht : strOfNums ys = text n := by
              unfold text
              rw [if_neg hn0, hd, HXn.out]
            rw [ht] at hcv
            clear hd ht
            go_wp2
            go_ret
            exact ⟨rfl, HB.out⟩

end Go.Proofs.Ythkmgjkajllemaa.Str
