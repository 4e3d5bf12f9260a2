/- Lemmas and contracts of functions for the theorem of YthkmgjkajllemaaDecShiftE. -/
import Derived.Test.YthkmgjkajllemaaDecShiftC
import Derived.WalkSpells
import Derived.Lib.Hide
import Derived.RegionTactic
import Derived.WideLaws
import Derived.Outline
import Derived.Deep.RegionWith
import Derived.Deep.RegionHeld3
import Derived.Test.YthkmgjkajllemaaWRepsOne
import Derived.Recover

/- The thin package reads a big integer out of its decimal digits. -/
namespace Go.Proofs.Ythkmgjkajllemaa.BigIn
open Go.RowKit Go.Proofs.YthkmgjkajllemaaW.PrintWords Go.Proofs.YthkmgjkajllemaaW.PrintLast Go.Proofs.YthkmgjkajllemaaW.PrintMore Go.Proofs.Ythkmgjkajllemaa.Num Go.Proofs.Ythkmgjkajllemaa.Big Go.Proofs.Ythkmgjkajllemaa.Wsum Go.Proofs.Ythkmgjkajllemaa.DecMake Go.Proofs.Ythkmgjkajllemaa.Mem Go.Proofs.Ythkmgjkajllemaa.BigSet Go.Proofs.Ythkmgjkajllemaa.NatOf
set_option linter.unusedVariables false
set_option linter.unusedSimpArgs false

set_option maxHeartbeats 4000000 in
set_option maxRecDepth 100000 in
theorem whole_pos (t : ByteArray) (L N : Nat) (w : World) (h : Dg t L N) (h0 : 0 < L) (hL : L ≤ 60) (hd : bt t 0 ≠ 48) :
    Calls Try.prog 32 #[.string t] w fun e w' => ∃ g vs, e = .returned (.tuple #[.pointer (some ⟨g, 0, none⟩), .bool true]) ∧ w.heap.size ≤ g ∧ Own w' w.heap.size g false vs ∧ In64 vs ∧ v64 vs = N ∧ (0 < vs.length ↔ 0 < N) ∧ vs.length < 100 ∧ Below w.heap.size w w' := by
  have hsz := h.size
  have hs : 0 < t.size := by omega
  have hb2 : ((t[0]'hs).toNat : Int) = bt t 0 := bt_at t 0 (by simpa using hs)
  have ha := h.at_ 0 h0
  have e1 : (((t[0]'hs).toNat : Int) == 45) = false := by
    rw [hb2]; exact beq_false_of_ne (by rw [show (0 : Int) = ((0 : Nat) : Int) from rfl, ha]; omega)
  have e2 : (((t[0]'hs).toNat : Int) == 48) = false := by
    rw [hb2]; exact beq_false_of_ne hd
  have e3 : decide (0 < (L : Int)) = true := decide_eq_true (by omega)
  have e4 : decide (400 < (L : Int)) = false := decide_eq_false (by omega)
  have e5 : decide ((L : Int) = 0) = false := decide_eq_false (by omega)
  have e6 : ((L : Int) == 0) = false := beq_false_of_ne (by omega)
  have HG := Aside0.mk h
  have HB := Aside0.mk (Below.refl w.heap.size w)
  clear hb2 ha h
  go_enter Try.func32, Try.ntmps32
  go_wp2
  have hN : N < 10 ^ L := HG.out.lt
  have hN' := Aside0.mk hN
  clear hN e1 e2 hs hd
  go_loopw [5, 6] (fun v5 v6 w' => ∃ (i : Nat) (xs : List Int), v6 = .int .i64 i ∧ i ≤ L ∧ xs.length ≤ i ∧ Aside0 (W32 xs) ∧ Aside0 (v32 xs = ((N / 10 ^ (L - i) : Nat) : Int)) ∧ Aside0 (Kd.R (Kd.int .u64) 22 w' w.heap.size (fun _ => True) v5 xs) ∧ Aside0 (Below w.heap.size w w')) (fun _ v6 _ => L - (intOf v6).toNat)
  case atStart => exact ⟨0, [], rfl, by omega, by simp, ⟨W32_nil⟩, ⟨by rw [Nat.sub_zero, Nat.div_eq_of_lt hN'.out]; rfl⟩, ⟨Kd.R_nil _ _ _ _ _⟩, HB⟩
  case round =>
    clear HB
    obtain ⟨i, xs, rfl, hi, hxl, HW, HV, HO, HB⟩ := hrel
    by_cases hlt : i < L
    · have g1 : decide ((i : Int) < (L : Int)) = true := decide_eq_true (by omega)
      go_wp2
      go_loop [6, 7, 8] (fun v6 v7 v8 => ∃ (j n sc : Nat), v6 = .int .i64 j ∧ v7 = .int .u64 n ∧ v8 = .int .u64 sc ∧ i ≤ j ∧ j ≤ L ∧ n < sc ∧ sc ≤ 1000000000 ∧ Aside0 (sc = 10 ^ (j - i)) ∧ Aside0 (n = N / 10 ^ (L - j) % 10 ^ (j - i))) (fun v6 _ _ => L - (intOf v6).toNat)
      case atStart => exact ⟨i, 0, 1, rfl, rfl, rfl, by omega, hi, by omega, by omega, ⟨by rw [Nat.sub_self]⟩, ⟨by rw [Nat.sub_self]; omega⟩⟩
      case round =>
        obtain ⟨j, n, sc, rfl, rfl, rfl, hij, hjL, hns, hsc, HSC, HNN⟩ := hrel
        by_cases hcont : j < L ∧ sc < 1000000000
        · obtain ⟨hc1, hc2⟩ := hcont
          have g2 : decide ((j : Int) < (L : Int)) = true := decide_eq_true (by omega)
          have g3 : decide ((sc : Int) < 1000000000) = true := decide_eq_true (by omega)
          have hjt : j < t.size := by omega
          obtain ⟨c, hc⟩ : ∃ c, N / 10 ^ (L - 1 - j) % 10 = c := ⟨_, rfl⟩
          obtain ⟨b, hbc⟩ : ∃ b, 48 + c = b := ⟨_, rfl⟩
          have HB3 := Aside0.mk (show ((t[j]'hjt).toNat : Int) = ((b : Nat) : Int) from (bt_at t j (by omega)).trans ((HG.out.at_ j hc1).trans (by rw [hc, hbc])))
          have hc10 : c < 10 := by rw [← hc]; exact Nat.mod_lt _ (by decide)
          have HST := Aside0.mk (digit_step N L j i hc1 hij)
          rw [hc] at HST
          have HBC := Aside0.mk hbc
          have k1 : (48 : Int) ≤ (b : Int) := by omega
          have k2 : ¬ (57 : Int) < (b : Int) := by omega
          have k3 : decide ((b : Int) < 48) = false := decide_eq_false (by omega)
          have k4 : decide ((57 : Int) < (b : Int)) = false := decide_eq_false (by omega)
          have HC10 := Aside0.mk hc10
          clear hc hbc hc10
          go_wp2_with (simp only [HB3.out])
          have HS10 : Aside0 (sc * 10 ≤ 1000000000 ∧ sc * 10 = 10 ^ (j + 1 - i)) := ⟨by
            have e : sc * 10 = 10 ^ (j + 1 - i) := by rw [HSC.out, show j + 1 - i = (j - i) + 1 by omega, Nat.pow_succ]
            refine ⟨?_, e⟩
            have h1 : j - i < 9 := by
              rcases Nat.lt_or_ge (j - i) 9 with h | h
              · exact h
              · have := Nat.pow_le_pow_right (show 0 < 10 by decide) h
                rw [← HSC.out] at this
                omega
            rw [e]
            exact Nat.pow_le_pow_right (show 0 < 10 by decide) (show j + 1 - i ≤ 9 by omega)⟩
          have HN1 : Aside0 (n * 10 + c = N / 10 ^ (L - (j + 1)) % 10 ^ (j + 1 - i)) := ⟨by rw [HST.out, ← HNN.out]; omega⟩
          go_round
          case rel => exact ⟨j + 1, n * 10 + c, sc * 10, by go_num, congrArg (Value.int .u64) (by have := HBC.out; omega), by go_num, by omega, by omega, by have := HC10.out; omega, HS10.out.1, ⟨HS10.out.2⟩, HN1⟩
          case measure => simp [intOf]; omega
        · have HM0 : Aside0 (Muled xs xs 0 sc n n) := ⟨Muled.start xs HW.out sc n hns⟩
          have hij9 : i < j := by
            rcases Nat.lt_or_ge i j with h | h
            · exact h
            · obtain rfl : i = j := by omega
              have h1 := HSC.out
              rw [Nat.sub_self] at h1
              omega
          have HJN : Aside0 (((N / 10 ^ (L - j) : Nat) : Int) = v32 xs * sc + n) := ⟨by
            rw [HV.out, HSC.out, HNN.out, ← Int.natCast_mul, ← Int.natCast_add, ← pfx_join N L i j hij hjL]⟩
          have hxl2 : xs.length ≤ 60 := by omega
          obtain ⟨A5, c5, e5', hc5, -⟩ := Kd.R_reads HO.out
          subst e5'
          rcases (by omega : ¬ j < L ∨ (j < L ∧ ¬ sc < 1000000000)) with hx | ⟨hx, hy⟩
          · have g2 : decide ((j : Int) < (L : Int)) = false := decide_eq_false (by omega)
            clear hcont
            go_wp2
            go_loopw [7, 81] (fun v7 v81 w' => ∃ (ys : List Int) (k m : Nat), v7 = .int .u64 m ∧ v81 = .int .i64 k ∧ k ≤ xs.length ∧ m < sc ∧ Aside0 (Muled xs ys k sc n m) ∧ Aside0 (Kd.R (Kd.int .u64) 22 w' w.heap.size (fun _ => True) (.slice A5 xs.length c5) ys) ∧ Aside0 (Below w.heap.size w w')) (fun _ v81 _ => xs.length - (intOf v81).toNat)
            case atStart => exact ⟨xs, 0, n, rfl, rfl, by omega, hns, HM0, HO, HB⟩
            case round =>
              clear HM0 HO HB
              obtain ⟨ys, k, m, rfl, rfl, hk, hm, HM, HO, HB⟩ := hrel
              have hyl := HM.out.len
              by_cases hkl : k < xs.length
              · obtain ⟨g3, c4, eg, hg3, -, -⟩ := Kd.R_form HO.out (show 0 < ys.length by omega)
                injection eg with ea eb ec
                subst ea
                clear eb ec
                obtain ⟨hx1, hf1⟩ := Kd.R_celln 0 HO.out (k : Int) (by omega) (by omega)
                have hxk := HW.out k
                obtain ⟨x, hx⟩ : ∃ x : Nat, xs.getD k 0 = x := Int.eq_ofNat_of_zero_le hxk.1
                unfold rdOf at hx1
                rw [Int.toNat_natCast] at hx1 hf1
                rw [HM.out.rest k (Nat.le_refl _), hx] at hx1
                rw [hx] at hxk
                have hst := HM.out.step hkl HW.out hsc hx
                have hpb : x * sc ≤ 4294967295 * 1000000000 := Nat.mul_le_mul (by omega) hsc
                obtain ⟨p, hp⟩ : ∃ p, x * sc = p := ⟨_, rfl⟩
                rw [hp] at hpb hst
                have hxp : (x : Int) * (sc : Int) = (p : Int) := by rw [← Int.natCast_mul, hp]
                obtain ⟨q, hq⟩ : ∃ q, m + p = q := ⟨_, rfl⟩
                rw [hq] at hst
                have hmq : (m : Int) + (p : Int) = (q : Int) := by omega
                have hqb : q < 18446744073709551616 := by omega
                have hand := and32 q hqb
                have HP1 := Aside0.mk (Kd.R_putn HO.out (k : Int) ((q % 4294967296 : Nat) : Int))
                rw [Int.toNat_natCast] at HP1
                have HST := Aside0.mk hst
                have HB2 : Aside0 (Below w.heap.size w (wr.setCell ⟨g3, k, none⟩ (.int .u64 ((q % 4294967296 : Nat) : Int)))) := ⟨below_set HB.out hg3⟩
                have hkb : decide ((k : Int) < (xs.length : Int)) = true := decide_eq_true (by omega)
                clear hp hq hpb hst hx HO HM HB
                go_wp2
                go_roundw
                case rel => exact ⟨_, k + 1, q / 4294967296, by go_num, by go_num, by omega, HST.out.left, HST, HP1, HB2⟩
                case measure => simp [intOf]; omega
              · obtain rfl : k = xs.length := by omega
                have HD : Aside0 (v32 ys + 4294967296 ^ xs.length * (m : Int) = ((N / 10 ^ (L - j) : Nat) : Int)) := ⟨by rw [HM.out.done, HJN.out]⟩
                have HYW := Aside0.mk HM.out.w32
                rcases (by omega : m = 0 ∨ 0 < m) with hm0 | hm0
                · subst hm0
                  have HV2 : Aside0 (v32 ys = ((N / 10 ^ (L - j) : Nat) : Int)) := ⟨by have := HD.out; simpa using this⟩
                  clear HD HM
                  go_wp2
                  go_roundw
                  case rel => exact ⟨j, ys, rfl, by omega, by omega, HYW, HV2, HO, HB⟩
                  case measure => simp [intOf]; omega
                · have hmb : decide (0 < (m : Int)) = true := decide_eq_true (by omega)
                  have HW3 : Aside0 (W32 (ys ++ [(m : Int)])) := ⟨W32_snoc HYW.out _ (by omega) (by omega)⟩
                  have HV3 : Aside0 (v32 (ys ++ [(m : Int)]) = ((N / 10 ^ (L - j) : Nat) : Int)) := ⟨by rw [v32_one, hyl]; exact HD.out⟩
                  clear HD HM
                  go_wp2_with (first | ((with_reducible refine gate_builtin (b := .append) (xs := #[.tmp 102, .tmp 104]) rfl ?_); at_builtin; go_must (refine Kd.R_append (Kd.int .u64) (w0 := w) w.heap.size rfl (.tmp 102) (.tmp 104) 78 22 (.int .u64 0) 8 rfl Try.underlying78 info22 rfl (by decide) (by omega) (.slice A5 xs.length c5) ys ((m : Int)) [.int .u64 (m : Int)] (fun _ => True) (fun _ => False) rfl rfl rfl (fun _ hk => hk.elim) (fun _ _ => trivial) HO.out HB.out HB.out.size (by omega) ?_); intro v1 w1 ho hb hg hat; have HO1 := Aside0.mk ho; have HB1 := Aside0.mk hb; clear ho hb hg hat HO HB))
                  go_roundw
                  case rel => exact ⟨j, _, rfl, by omega, by simp; omega, HW3, HV3, HO1, HB1⟩
                  case measure => simp [intOf]; omega
          · have g2 : decide ((j : Int) < (L : Int)) = true := decide_eq_true (by omega)
            have g3 : decide ((sc : Int) < 1000000000) = false := decide_eq_false (by omega)
            clear hcont
            go_wp2
            go_loopw [7, 81] (fun v7 v81 w' => ∃ (ys : List Int) (k m : Nat), v7 = .int .u64 m ∧ v81 = .int .i64 k ∧ k ≤ xs.length ∧ m < sc ∧ Aside0 (Muled xs ys k sc n m) ∧ Aside0 (Kd.R (Kd.int .u64) 22 w' w.heap.size (fun _ => True) (.slice A5 xs.length c5) ys) ∧ Aside0 (Below w.heap.size w w')) (fun _ v81 _ => xs.length - (intOf v81).toNat)
            case atStart => exact ⟨xs, 0, n, rfl, rfl, by omega, hns, HM0, HO, HB⟩
            case round =>
              clear HM0 HO HB
              obtain ⟨ys, k, m, rfl, rfl, hk, hm, HM, HO, HB⟩ := hrel
              have hyl := HM.out.len
              by_cases hkl : k < xs.length
              · obtain ⟨g3, c4, eg, hg3, -, -⟩ := Kd.R_form HO.out (show 0 < ys.length by omega)
                injection eg with ea eb ec
                subst ea
                clear eb ec
                obtain ⟨hx1, hf1⟩ := Kd.R_celln 0 HO.out (k : Int) (by omega) (by omega)
                have hxk := HW.out k
                obtain ⟨x, hx⟩ : ∃ x : Nat, xs.getD k 0 = x := Int.eq_ofNat_of_zero_le hxk.1
                unfold rdOf at hx1
                rw [Int.toNat_natCast] at hx1 hf1
                rw [HM.out.rest k (Nat.le_refl _), hx] at hx1
                rw [hx] at hxk
                have hst := HM.out.step hkl HW.out hsc hx
                have hpb : x * sc ≤ 4294967295 * 1000000000 := Nat.mul_le_mul (by omega) hsc
                obtain ⟨p, hp⟩ : ∃ p, x * sc = p := ⟨_, rfl⟩
                rw [hp] at hpb hst
                have hxp : (x : Int) * (sc : Int) = (p : Int) := by rw [← Int.natCast_mul, hp]
                obtain ⟨q, hq⟩ : ∃ q, m + p = q := ⟨_, rfl⟩
                rw [hq] at hst
                have hmq : (m : Int) + (p : Int) = (q : Int) := by omega
                have hqb : q < 18446744073709551616 := by omega
                have hand := and32 q hqb
                have HP1 := Aside0.mk (Kd.R_putn HO.out (k : Int) ((q % 4294967296 : Nat) : Int))
                rw [Int.toNat_natCast] at HP1
                have HST := Aside0.mk hst
                have HB2 : Aside0 (Below w.heap.size w (wr.setCell ⟨g3, k, none⟩ (.int .u64 ((q % 4294967296 : Nat) : Int)))) := ⟨below_set HB.out hg3⟩
                have hkb : decide ((k : Int) < (xs.length : Int)) = true := decide_eq_true (by omega)
                clear hp hq hpb hst hx HO HM HB
                go_wp2
                go_roundw
                case rel => exact ⟨_, k + 1, q / 4294967296, by go_num, by go_num, by omega, HST.out.left, HST, HP1, HB2⟩
                case measure => simp [intOf]; omega
              · obtain rfl : k = xs.length := by omega
                have HD : Aside0 (v32 ys + 4294967296 ^ xs.length * (m : Int) = ((N / 10 ^ (L - j) : Nat) : Int)) := ⟨by rw [HM.out.done, HJN.out]⟩
                have HYW := Aside0.mk HM.out.w32
                rcases (by omega : m = 0 ∨ 0 < m) with hm0 | hm0
                · subst hm0
                  have HV2 : Aside0 (v32 ys = ((N / 10 ^ (L - j) : Nat) : Int)) := ⟨by have := HD.out; simpa using this⟩
                  clear HD HM
                  go_wp2
                  go_roundw
                  case rel => exact ⟨j, ys, rfl, by omega, by omega, HYW, HV2, HO, HB⟩
                  case measure => simp [intOf]; omega
                · have hmb : decide (0 < (m : Int)) = true := decide_eq_true (by omega)
                  have HW3 : Aside0 (W32 (ys ++ [(m : Int)])) := ⟨W32_snoc HYW.out _ (by omega) (by omega)⟩
                  have HV3 : Aside0 (v32 (ys ++ [(m : Int)]) = ((N / 10 ^ (L - j) : Nat) : Int)) := ⟨by rw [v32_one, hyl]; exact HD.out⟩
                  clear HD HM
                  go_wp2_with (first | ((with_reducible refine gate_builtin (b := .append) (xs := #[.tmp 102, .tmp 104]) rfl ?_); at_builtin; go_must (refine Kd.R_append (Kd.int .u64) (w0 := w) w.heap.size rfl (.tmp 102) (.tmp 104) 78 22 (.int .u64 0) 8 rfl Try.underlying78 info22 rfl (by decide) (by omega) (.slice A5 xs.length c5) ys ((m : Int)) [.int .u64 (m : Int)] (fun _ => True) (fun _ => False) rfl rfl rfl (fun _ hk => hk.elim) (fun _ _ => trivial) HO.out HB.out HB.out.size (by omega) ?_); intro v1 w1 ho hb hg hat; have HO1 := Aside0.mk ho; have HB1 := Aside0.mk hb; clear ho hb hg hat HO HB))
                  go_roundw
                  case rel => exact ⟨j, _, rfl, by omega, by simp; omega, HW3, HV3, HO1, HB1⟩
                  case measure => simp [intOf]; omega
    · obtain rfl : i = L := by omega
      have g1 : decide ((i : Int) < (i : Int)) = false := decide_eq_false (by omega)
      have HVN : Aside0 (v32 xs = (N : Int)) := ⟨by rw [HV.out, Nat.sub_self, Nat.pow_zero, Nat.div_one]⟩
      have hxl2 : xs.length ≤ 60 := by omega
      obtain ⟨A5, c5, e5', hc5, -⟩ := Kd.R_reads HO.out
      subst e5'
      clear HV
      go_wp2
      go_loopw [10, 108] (fun v10 v108 w' => ∃ (k : Nat), v108 = .int .i64 k ∧ k ≤ xs.length ∧ Aside0 (Kd.R (Kd.int .u64) 22 w' w.heap.size (fun _ => True) (.slice A5 xs.length c5) xs) ∧ Aside0 (Kd.R (Kd.int .u64) 81 w' w.heap.size (fun _ => True) v10 (pack (xs.take k))) ∧ Aside0 (Below w.heap.size w w')) (fun _ v108 _ => xs.length - (intOf v108).toNat)
      case atStart => exact ⟨0, rfl, by omega, HO, ⟨Kd.R_nil _ _ _ _ _⟩, HB⟩
      case round =>
        clear HO HB
        obtain ⟨k, rfl, hk, HO, HP, HB⟩ := hrel
        by_cases hkl : k < xs.length
        · obtain ⟨g3, c4, eg, hg3, -, -⟩ := Kd.R_form HO.out (show 0 < xs.length by omega)
          injection eg with ea eb ec
          subst ea
          clear eb ec
          obtain ⟨hx1, hf1⟩ := Kd.R_celln 0 HO.out (k : Int) (by omega) (by omega)
          have hxk := HW.out k
          obtain ⟨x, hx⟩ : ∃ x : Nat, xs.getD k 0 = x := Int.eq_ofNat_of_zero_le hxk.1
          unfold rdOf at hx1
          rw [Int.toNat_natCast] at hx1 hf1
          rw [hx] at hx1 hxk
          have hkb : decide ((k : Int) < (xs.length : Int)) = true := decide_eq_true (by omega)
          have hst : xs.take (k + 1) = xs.take k ++ [(x : Int)] := by
            rw [List.take_succ_eq_append_getElem hkl, ← hx, List.getD_eq_getElem?_getD, List.getElem?_eq_getElem hkl]
            rfl
          have hlt' : (xs.take k).length = k := by rw [List.length_take]; omega
          have hpl := pack_length (xs.take k)
          rw [hlt'] at hpl
          obtain ⟨m, hmm⟩ : ∃ m, k / 2 = m := ⟨_, rfl⟩
          rcases (by omega : k = 2 * m ∨ k = 2 * m + 1) with hm | hm
          · have r1 : (k : Int) % 2 = 0 := by omega
            have r2 : (k : Int).tmod 2 = 0 := by rw [Int.tmod_eq_emod_of_nonneg (by omega)]; exact r1
            have HPP : Aside0 (pack (xs.take (k + 1)) = pack (xs.take k) ++ [(x : Int)]) := ⟨by rw [hst]; exact pack_even _ _ m (hlt'.trans hm)⟩
            clear hst hlt' hx
            generalize pack (xs.take k) = ps at HP HPP hpl
            obtain ⟨A6, c6, e6', hc6, -⟩ := Kd.R_reads HP.out
            subst e6'
            clear hm hmm
            go_wp2_with (first | ((with_reducible refine gate_builtin (b := .append) (xs := #[.tmp 114, .tmp 119]) rfl ?_); at_builtin; go_must (refine Kd.R_append (Kd.int .u64) (w0 := w) w.heap.size rfl (.tmp 114) (.tmp 119) 64 81 (.int .u64 0) 8 rfl Try.underlying64 DecMake.info81 rfl (by decide) (by omega) (.slice A6 ps.length c6) ps ((x : Int)) [.int .u64 (x : Int)] (fun _ => True) (fun _ => False) rfl rfl rfl (fun _ hk => hk.elim) (fun _ _ => trivial) HP.out HB.out HB.out.size (by omega) ?_); intro v1 w1 ho hb hg hat; have HP1 := Aside0.mk ho; have HB1 := Aside0.mk hb; have HO1 := Aside0.mk (Kd.R_over HO.out HP.out (by intro t ht h; subst h; simp [Kd.int, Kd.scalar] at ht) hg); clear ho hb hg hat HP HB HO))
            go_roundw
            case rel => exact ⟨k + 1, by go_num, by omega, HO1, ⟨by rw [HPP.out]; exact HP1.out⟩, HB1⟩
            case measure => simp [intOf]; omega
          · have r1 : (k : Int) % 2 = 1 := by omega
            have r2 : (k : Int).tmod 2 = 1 := by rw [Int.tmod_eq_emod_of_nonneg (by omega)]; exact r1
            have r3 : (k : Int).tdiv 2 = m := by rw [Int.tdiv_eq_ediv_of_nonneg (by omega)]; omega
            have hpo := pack_odd (xs.take k) (x : Int) m (hlt'.trans hm)
            have hyk : (pack (xs.take k)).getD m 0 = xs.getD (2 * m) 0 := by
              rw [hpo.2, List.getD_eq_getElem?_getD, List.getD_eq_getElem?_getD, List.getElem?_take, if_pos (by omega)]
            have hyr := HW.out (2 * m)
            obtain ⟨y, hy⟩ : ∃ y : Nat, xs.getD (2 * m) 0 = y := Int.eq_ofNat_of_zero_le hyr.1
            rw [hy] at hyk hyr
            have HPP : Aside0 (pack (xs.take (k + 1)) = (pack (xs.take k)).set m ((y : Int) + 4294967296 * (x : Int))) := ⟨by rw [hst, hpo.1, hyk]⟩
            clear hst hlt' hx hpo hy
            generalize pack (xs.take k) = ps at HP HPP hpl hyk
            obtain ⟨g6, c6, eg, hg6, -, cells, hcells⟩ := Kd.R_form HP.out (show 0 < ps.length by omega)
            subst eg
            obtain ⟨hy1, hf6⟩ := Kd.R_celln 0 HP.out (m : Int) (by omega) (by omega)
            unfold rdOf at hy1
            rw [Int.toNat_natCast] at hy1 hf6
            rw [hyk] at hy1
            have hor := or64 y x (by omega) (by omega)
            have HP1 := Aside0.mk (Kd.R_putn HP.out (m : Int) ((y + 4294967296 * x : Nat) : Int))
            rw [Int.toNat_natCast] at HP1
            have HO1 := Aside0.mk (Kd.R_set HO.out hcells (by intro q hq h; subst h; simp [Kd.int, Kd.scalar] at hq) m (.int .u64 ((y + 4294967296 * x : Nat) : Int)))
            have HB1 : Aside0 (Below w.heap.size w (wr.setCell ⟨g6, m, none⟩ (.int .u64 ((y + 4294967296 * x : Nat) : Int)))) := ⟨below_set HB.out hg6⟩
            have HMM : Aside0 (m < ps.length) := ⟨by omega⟩
            obtain ⟨z, hz⟩ : ∃ z, y + 4294967296 * x = z := ⟨_, rfl⟩
            have HZ : Aside0 ((z : Int) = (y : Int) + 4294967296 * (x : Int)) := ⟨by omega⟩
            have hzb : z < 18446744073709551616 := by omega
            rw [hz] at hor HP1 HO1 HB1
            have hmp : (m : Int) < (ps.length : Int) := by omega
            clear hm hz hcells hyk HP HO HB hmm
            go_wp2
            go_region
            go_wp2
            go_roundw
            case rel => exact ⟨k + 1, by go_num, by omega, ⟨Kd.R_drew HO1.out⟩, ⟨by rw [HPP.out, ← HZ.out]; exact Kd.R_drew HP1.out⟩, ⟨below_drew HB1.out⟩⟩
            case measure => simp [intOf]; omega
        · obtain rfl : k = xs.length := by omega
          rw [List.take_length] at HP
          obtain ⟨A6, c6, e6', hc6, -⟩ := Kd.R_reads HP.out
          subst e6'
          have HV6 : Aside0 (v64 (pack xs) = (N : Int)) := ⟨by rw [v64_pack]; exact HVN.out⟩
          have HI6 : Aside0 (In64 (pack xs)) := ⟨pack_in xs HW.out⟩
          have hpl := pack_length xs
          generalize pack xs = ps at HP HV6 HI6 hpl
          have hpl2 : ps.length ≤ 60 := by omega
          have HSB := Lib.hid (setBits_any A6 c6 wr.heap.size w.heap.size ps (fun k => k < wr.heap.size) (wr.alloc (.cells #[.bool false, .slice none 0 0] 67)) (fun k hk => by omega) (by simp) (by simp) (by simp) (by simp) HB.out.size (Kd.R_alloc (Kd.R_mono (Kd.R_bound HP.out) (fun k hk => hk.2.2.1)) _) HI6.out (by omega))
          have HBA := Aside0.mk (below_at HB.out (.cells #[.bool false, .slice none 0 0] 67))
          have HBS := Aside0.mk HB.out.size
          clear HO HP HB hpl HI6 HVN
          go_wp2_with (first | (go_at_call 45; go_must (refine HSB.out.mono ?_); rintro e w1 ⟨rfl, vs, hn, ho, hb⟩; have HN := Aside0.mk hn; have HOW := Aside0.mk ho; have HB1 := Aside0.mk (HBA.out.trans hb); clear hn ho hb))
          go_ret2
          exact ⟨wr.heap.size, vs, rfl, HBS.out, HOW.out, HN.out.inn, HN.out.val.trans HV6.out, by rw [HN.out.pos, HN.out.val, HV6.out]; exact Int.natCast_pos, by have := HN.out.le; omega, HB1.out⟩
set_option maxHeartbeats 4000000 in
set_option maxRecDepth 100000 in
theorem whole_zero (t : ByteArray) (L N : Nat) (w : World) (h : Dg t L N) (h0 : 0 < L) (hL : L ≤ 60) (hd : bt t 0 = 48) (h1 : L ≤ 1) :
    Calls Try.prog 32 #[.string t] w fun e w' => ∃ g vs, e = .returned (.tuple #[.pointer (some ⟨g, 0, none⟩), .bool true]) ∧ w.heap.size ≤ g ∧ Own w' w.heap.size g false vs ∧ In64 vs ∧ v64 vs = N ∧ (0 < vs.length ↔ 0 < N) ∧ vs.length < 100 ∧ Below w.heap.size w w' := by
  have hsz := h.size
  have hs : 0 < t.size := by omega
  have hb2 : ((t[0]'hs).toNat : Int) = bt t 0 := bt_at t 0 (by simpa using hs)
  have ha := h.at_ 0 h0
  have e1 : (((t[0]'hs).toNat : Int) == 45) = false := by
    rw [hb2]; exact beq_false_of_ne (by rw [show (0 : Int) = ((0 : Nat) : Int) from rfl, ha]; omega)
  have e2 : (((t[0]'hs).toNat : Int) == 48) = true := by
    rw [hb2, hd]; rfl
  have e3 : decide (0 < (L : Int)) = true := decide_eq_true (by omega)
  have e4 : decide (400 < (L : Int)) = false := decide_eq_false (by omega)
  have e5 : decide ((L : Int) = 0) = false := decide_eq_false (by omega)
  have e6 : ((L : Int) == 0) = false := beq_false_of_ne (by omega)
  have HG := Aside0.mk h
  have HB := Aside0.mk (Below.refl w.heap.size w)
  have e7 : decide (1 < (L : Int)) = false := decide_eq_false (by omega)
  clear h1
  clear hb2 ha h
  go_enter Try.func32, Try.ntmps32
  go_wp2
  have hN : N < 10 ^ L := HG.out.lt
  have hN' := Aside0.mk hN
  clear hN e1 e2 hs hd
  go_loopw [5, 6] (fun v5 v6 w' => ∃ (i : Nat) (xs : List Int), v6 = .int .i64 i ∧ i ≤ L ∧ xs.length ≤ i ∧ Aside0 (W32 xs) ∧ Aside0 (v32 xs = ((N / 10 ^ (L - i) : Nat) : Int)) ∧ Aside0 (Kd.R (Kd.int .u64) 22 w' w.heap.size (fun _ => True) v5 xs) ∧ Aside0 (Below w.heap.size w w')) (fun _ v6 _ => L - (intOf v6).toNat)
  case atStart => exact ⟨0, [], rfl, by omega, by simp, ⟨W32_nil⟩, ⟨by rw [Nat.sub_zero, Nat.div_eq_of_lt hN'.out]; rfl⟩, ⟨Kd.R_nil _ _ _ _ _⟩, HB⟩
  case round =>
    clear HB
    obtain ⟨i, xs, rfl, hi, hxl, HW, HV, HO, HB⟩ := hrel
    by_cases hlt : i < L
    · have g1 : decide ((i : Int) < (L : Int)) = true := decide_eq_true (by omega)
      go_wp2
      go_loop [6, 7, 8] (fun v6 v7 v8 => ∃ (j n sc : Nat), v6 = .int .i64 j ∧ v7 = .int .u64 n ∧ v8 = .int .u64 sc ∧ i ≤ j ∧ j ≤ L ∧ n < sc ∧ sc ≤ 1000000000 ∧ Aside0 (sc = 10 ^ (j - i)) ∧ Aside0 (n = N / 10 ^ (L - j) % 10 ^ (j - i))) (fun v6 _ _ => L - (intOf v6).toNat)
      case atStart => exact ⟨i, 0, 1, rfl, rfl, rfl, by omega, hi, by omega, by omega, ⟨by rw [Nat.sub_self]⟩, ⟨by rw [Nat.sub_self]; omega⟩⟩
      case round =>
        obtain ⟨j, n, sc, rfl, rfl, rfl, hij, hjL, hns, hsc, HSC, HNN⟩ := hrel
        by_cases hcont : j < L ∧ sc < 1000000000
        · obtain ⟨hc1, hc2⟩ := hcont
          have g2 : decide ((j : Int) < (L : Int)) = true := decide_eq_true (by omega)
          have g3 : decide ((sc : Int) < 1000000000) = true := decide_eq_true (by omega)
          have hjt : j < t.size := by omega
          obtain ⟨c, hc⟩ : ∃ c, N / 10 ^ (L - 1 - j) % 10 = c := ⟨_, rfl⟩
          obtain ⟨b, hbc⟩ : ∃ b, 48 + c = b := ⟨_, rfl⟩
          have HB3 := Aside0.mk (show ((t[j]'hjt).toNat : Int) = ((b : Nat) : Int) from (bt_at t j (by omega)).trans ((HG.out.at_ j hc1).trans (by rw [hc, hbc])))
          have hc10 : c < 10 := by rw [← hc]; exact Nat.mod_lt _ (by decide)
          have HST := Aside0.mk (digit_step N L j i hc1 hij)
          rw [hc] at HST
          have HBC := Aside0.mk hbc
          have k1 : (48 : Int) ≤ (b : Int) := by omega
          have k2 : ¬ (57 : Int) < (b : Int) := by omega
          have k3 : decide ((b : Int) < 48) = false := decide_eq_false (by omega)
          have k4 : decide ((57 : Int) < (b : Int)) = false := decide_eq_false (by omega)
          have HC10 := Aside0.mk hc10
          clear hc hbc hc10
          go_wp2_with (simp only [HB3.out])
          have HS10 : Aside0 (sc * 10 ≤ 1000000000 ∧ sc * 10 = 10 ^ (j + 1 - i)) := ⟨by
            have e : sc * 10 = 10 ^ (j + 1 - i) := by rw [HSC.out, show j + 1 - i = (j - i) + 1 by omega, Nat.pow_succ]
            refine ⟨?_, e⟩
            have h1 : j - i < 9 := by
              rcases Nat.lt_or_ge (j - i) 9 with h | h
              · exact h
              · have := Nat.pow_le_pow_right (show 0 < 10 by decide) h
                rw [← HSC.out] at this
                omega
            rw [e]
            exact Nat.pow_le_pow_right (show 0 < 10 by decide) (show j + 1 - i ≤ 9 by omega)⟩
          have HN1 : Aside0 (n * 10 + c = N / 10 ^ (L - (j + 1)) % 10 ^ (j + 1 - i)) := ⟨by rw [HST.out, ← HNN.out]; omega⟩
          go_round
          case rel => exact ⟨j + 1, n * 10 + c, sc * 10, by go_num, congrArg (Value.int .u64) (by have := HBC.out; omega), by go_num, by omega, by omega, by have := HC10.out; omega, HS10.out.1, ⟨HS10.out.2⟩, HN1⟩
          case measure => simp [intOf]; omega
        · have HM0 : Aside0 (Muled xs xs 0 sc n n) := ⟨Muled.start xs HW.out sc n hns⟩
          have hij9 : i < j := by
            rcases Nat.lt_or_ge i j with h | h
            · exact h
            · obtain rfl : i = j := by omega
              have h1 := HSC.out
              rw [Nat.sub_self] at h1
              omega
          have HJN : Aside0 (((N / 10 ^ (L - j) : Nat) : Int) = v32 xs * sc + n) := ⟨by
            rw [HV.out, HSC.out, HNN.out, ← Int.natCast_mul, ← Int.natCast_add, ← pfx_join N L i j hij hjL]⟩
          have hxl2 : xs.length ≤ 60 := by omega
          obtain ⟨A5, c5, e5', hc5, -⟩ := Kd.R_reads HO.out
          subst e5'
          rcases (by omega : ¬ j < L ∨ (j < L ∧ ¬ sc < 1000000000)) with hx | ⟨hx, hy⟩
          · have g2 : decide ((j : Int) < (L : Int)) = false := decide_eq_false (by omega)
            clear hcont
            go_wp2
            go_loopw [7, 81] (fun v7 v81 w' => ∃ (ys : List Int) (k m : Nat), v7 = .int .u64 m ∧ v81 = .int .i64 k ∧ k ≤ xs.length ∧ m < sc ∧ Aside0 (Muled xs ys k sc n m) ∧ Aside0 (Kd.R (Kd.int .u64) 22 w' w.heap.size (fun _ => True) (.slice A5 xs.length c5) ys) ∧ Aside0 (Below w.heap.size w w')) (fun _ v81 _ => xs.length - (intOf v81).toNat)
            case atStart => exact ⟨xs, 0, n, rfl, rfl, by omega, hns, HM0, HO, HB⟩
            case round =>
              clear HM0 HO HB
              obtain ⟨ys, k, m, rfl, rfl, hk, hm, HM, HO, HB⟩ := hrel
              have hyl := HM.out.len
              by_cases hkl : k < xs.length
              · obtain ⟨g3, c4, eg, hg3, -, -⟩ := Kd.R_form HO.out (show 0 < ys.length by omega)
                injection eg with ea eb ec
                subst ea
                clear eb ec
                obtain ⟨hx1, hf1⟩ := Kd.R_celln 0 HO.out (k : Int) (by omega) (by omega)
                have hxk := HW.out k
                obtain ⟨x, hx⟩ : ∃ x : Nat, xs.getD k 0 = x := Int.eq_ofNat_of_zero_le hxk.1
                unfold rdOf at hx1
                rw [Int.toNat_natCast] at hx1 hf1
                rw [HM.out.rest k (Nat.le_refl _), hx] at hx1
                rw [hx] at hxk
                have hst := HM.out.step hkl HW.out hsc hx
                have hpb : x * sc ≤ 4294967295 * 1000000000 := Nat.mul_le_mul (by omega) hsc
                obtain ⟨p, hp⟩ : ∃ p, x * sc = p := ⟨_, rfl⟩
                rw [hp] at hpb hst
                have hxp : (x : Int) * (sc : Int) = (p : Int) := by rw [← Int.natCast_mul, hp]
                obtain ⟨q, hq⟩ : ∃ q, m + p = q := ⟨_, rfl⟩
                rw [hq] at hst
                have hmq : (m : Int) + (p : Int) = (q : Int) := by omega
                have hqb : q < 18446744073709551616 := by omega
                have hand := and32 q hqb
                have HP1 := Aside0.mk (Kd.R_putn HO.out (k : Int) ((q % 4294967296 : Nat) : Int))
                rw [Int.toNat_natCast] at HP1
                have HST := Aside0.mk hst
                have HB2 : Aside0 (Below w.heap.size w (wr.setCell ⟨g3, k, none⟩ (.int .u64 ((q % 4294967296 : Nat) : Int)))) := ⟨below_set HB.out hg3⟩
                have hkb : decide ((k : Int) < (xs.length : Int)) = true := decide_eq_true (by omega)
                clear hp hq hpb hst hx HO HM HB
                go_wp2
                go_roundw
                case rel => exact ⟨_, k + 1, q / 4294967296, by go_num, by go_num, by omega, HST.out.left, HST, HP1, HB2⟩
                case measure => simp [intOf]; omega
              · obtain rfl : k = xs.length := by omega
                have HD : Aside0 (v32 ys + 4294967296 ^ xs.length * (m : Int) = ((N / 10 ^ (L - j) : Nat) : Int)) := ⟨by rw [HM.out.done, HJN.out]⟩
                have HYW := Aside0.mk HM.out.w32
                rcases (by omega : m = 0 ∨ 0 < m) with hm0 | hm0
                · subst hm0
                  have HV2 : Aside0 (v32 ys = ((N / 10 ^ (L - j) : Nat) : Int)) := ⟨by have := HD.out; simpa using this⟩
                  clear HD HM
                  go_wp2
                  go_roundw
                  case rel => exact ⟨j, ys, rfl, by omega, by omega, HYW, HV2, HO, HB⟩
                  case measure => simp [intOf]; omega
                · have hmb : decide (0 < (m : Int)) = true := decide_eq_true (by omega)
                  have HW3 : Aside0 (W32 (ys ++ [(m : Int)])) := ⟨W32_snoc HYW.out _ (by omega) (by omega)⟩
                  have HV3 : Aside0 (v32 (ys ++ [(m : Int)]) = ((N / 10 ^ (L - j) : Nat) : Int)) := ⟨by rw [v32_one, hyl]; exact HD.out⟩
                  clear HD HM
                  go_wp2_with (first | ((with_reducible refine gate_builtin (b := .append) (xs := #[.tmp 102, .tmp 104]) rfl ?_); at_builtin; go_must (refine Kd.R_append (Kd.int .u64) (w0 := w) w.heap.size rfl (.tmp 102) (.tmp 104) 78 22 (.int .u64 0) 8 rfl Try.underlying78 info22 rfl (by decide) (by omega) (.slice A5 xs.length c5) ys ((m : Int)) [.int .u64 (m : Int)] (fun _ => True) (fun _ => False) rfl rfl rfl (fun _ hk => hk.elim) (fun _ _ => trivial) HO.out HB.out HB.out.size (by omega) ?_); intro v1 w1 ho hb hg hat; have HO1 := Aside0.mk ho; have HB1 := Aside0.mk hb; clear ho hb hg hat HO HB))
                  go_roundw
                  case rel => exact ⟨j, _, rfl, by omega, by simp; omega, HW3, HV3, HO1, HB1⟩
                  case measure => simp [intOf]; omega
          · have g2 : decide ((j : Int) < (L : Int)) = true := decide_eq_true (by omega)
            have g3 : decide ((sc : Int) < 1000000000) = false := decide_eq_false (by omega)
            clear hcont
            go_wp2
            go_loopw [7, 81] (fun v7 v81 w' => ∃ (ys : List Int) (k m : Nat), v7 = .int .u64 m ∧ v81 = .int .i64 k ∧ k ≤ xs.length ∧ m < sc ∧ Aside0 (Muled xs ys k sc n m) ∧ Aside0 (Kd.R (Kd.int .u64) 22 w' w.heap.size (fun _ => True) (.slice A5 xs.length c5) ys) ∧ Aside0 (Below w.heap.size w w')) (fun _ v81 _ => xs.length - (intOf v81).toNat)
            case atStart => exact ⟨xs, 0, n, rfl, rfl, by omega, hns, HM0, HO, HB⟩
            case round =>
              clear HM0 HO HB
              obtain ⟨ys, k, m, rfl, rfl, hk, hm, HM, HO, HB⟩ := hrel
              have hyl := HM.out.len
              by_cases hkl : k < xs.length
              · obtain ⟨g3, c4, eg, hg3, -, -⟩ := Kd.R_form HO.out (show 0 < ys.length by omega)
                injection eg with ea eb ec
                subst ea
                clear eb ec
                obtain ⟨hx1, hf1⟩ := Kd.R_celln 0 HO.out (k : Int) (by omega) (by omega)
                have hxk := HW.out k
                obtain ⟨x, hx⟩ : ∃ x : Nat, xs.getD k 0 = x := Int.eq_ofNat_of_zero_le hxk.1
                unfold rdOf at hx1
                rw [Int.toNat_natCast] at hx1 hf1
                rw [HM.out.rest k (Nat.le_refl _), hx] at hx1
                rw [hx] at hxk
                have hst := HM.out.step hkl HW.out hsc hx
                have hpb : x * sc ≤ 4294967295 * 1000000000 := Nat.mul_le_mul (by omega) hsc
                obtain ⟨p, hp⟩ : ∃ p, x * sc = p := ⟨_, rfl⟩
                rw [hp] at hpb hst
                have hxp : (x : Int) * (sc : Int) = (p : Int) := by rw [← Int.natCast_mul, hp]
                obtain ⟨q, hq⟩ : ∃ q, m + p = q := ⟨_, rfl⟩
                rw [hq] at hst
                have hmq : (m : Int) + (p : Int) = (q : Int) := by omega
                have hqb : q < 18446744073709551616 := by omega
                have hand := and32 q hqb
                have HP1 := Aside0.mk (Kd.R_putn HO.out (k : Int) ((q % 4294967296 : Nat) : Int))
                rw [Int.toNat_natCast] at HP1
                have HST := Aside0.mk hst
                have HB2 : Aside0 (Below w.heap.size w (wr.setCell ⟨g3, k, none⟩ (.int .u64 ((q % 4294967296 : Nat) : Int)))) := ⟨below_set HB.out hg3⟩
                have hkb : decide ((k : Int) < (xs.length : Int)) = true := decide_eq_true (by omega)
                clear hp hq hpb hst hx HO HM HB
                go_wp2
                go_roundw
                case rel => exact ⟨_, k + 1, q / 4294967296, by go_num, by go_num, by omega, HST.out.left, HST, HP1, HB2⟩
                case measure => simp [intOf]; omega
              · obtain rfl : k = xs.length := by omega
                have HD : Aside0 (v32 ys + 4294967296 ^ xs.length * (m : Int) = ((N / 10 ^ (L - j) : Nat) : Int)) := ⟨by rw [HM.out.done, HJN.out]⟩
                have HYW := Aside0.mk HM.out.w32
                rcases (by omega : m = 0 ∨ 0 < m) with hm0 | hm0
                · subst hm0
                  have HV2 : Aside0 (v32 ys = ((N / 10 ^ (L - j) : Nat) : Int)) := ⟨by have := HD.out; simpa using this⟩
                  clear HD HM
                  go_wp2
                  go_roundw
                  case rel => exact ⟨j, ys, rfl, by omega, by omega, HYW, HV2, HO, HB⟩
                  case measure => simp [intOf]; omega
                · have hmb : decide (0 < (m : Int)) = true := decide_eq_true (by omega)
                  have HW3 : Aside0 (W32 (ys ++ [(m : Int)])) := ⟨W32_snoc HYW.out _ (by omega) (by omega)⟩
                  have HV3 : Aside0 (v32 (ys ++ [(m : Int)]) = ((N / 10 ^ (L - j) : Nat) : Int)) := ⟨by rw [v32_one, hyl]; exact HD.out⟩
                  clear HD HM
                  go_wp2_with (first | ((with_reducible refine gate_builtin (b := .append) (xs := #[.tmp 102, .tmp 104]) rfl ?_); at_builtin; go_must (refine Kd.R_append (Kd.int .u64) (w0 := w) w.heap.size rfl (.tmp 102) (.tmp 104) 78 22 (.int .u64 0) 8 rfl Try.underlying78 info22 rfl (by decide) (by omega) (.slice A5 xs.length c5) ys ((m : Int)) [.int .u64 (m : Int)] (fun _ => True) (fun _ => False) rfl rfl rfl (fun _ hk => hk.elim) (fun _ _ => trivial) HO.out HB.out HB.out.size (by omega) ?_); intro v1 w1 ho hb hg hat; have HO1 := Aside0.mk ho; have HB1 := Aside0.mk hb; clear ho hb hg hat HO HB))
                  go_roundw
                  case rel => exact ⟨j, _, rfl, by omega, by simp; omega, HW3, HV3, HO1, HB1⟩
                  case measure => simp [intOf]; omega
    · obtain rfl : i = L := by omega
      have g1 : decide ((i : Int) < (i : Int)) = false := decide_eq_false (by omega)
      have HVN : Aside0 (v32 xs = (N : Int)) := ⟨by rw [HV.out, Nat.sub_self, Nat.pow_zero, Nat.div_one]⟩
      have hxl2 : xs.length ≤ 60 := by omega
      obtain ⟨A5, c5, e5', hc5, -⟩ := Kd.R_reads HO.out
      subst e5'
      clear HV
      go_wp2
      go_loopw [10, 108] (fun v10 v108 w' => ∃ (k : Nat), v108 = .int .i64 k ∧ k ≤ xs.length ∧ Aside0 (Kd.R (Kd.int .u64) 22 w' w.heap.size (fun _ => True) (.slice A5 xs.length c5) xs) ∧ Aside0 (Kd.R (Kd.int .u64) 81 w' w.heap.size (fun _ => True) v10 (pack (xs.take k))) ∧ Aside0 (Below w.heap.size w w')) (fun _ v108 _ => xs.length - (intOf v108).toNat)
      case atStart => exact ⟨0, rfl, by omega, HO, ⟨Kd.R_nil _ _ _ _ _⟩, HB⟩
      case round =>
        clear HO HB
        obtain ⟨k, rfl, hk, HO, HP, HB⟩ := hrel
        by_cases hkl : k < xs.length
        · obtain ⟨g3, c4, eg, hg3, -, -⟩ := Kd.R_form HO.out (show 0 < xs.length by omega)
          injection eg with ea eb ec
          subst ea
          clear eb ec
          obtain ⟨hx1, hf1⟩ := Kd.R_celln 0 HO.out (k : Int) (by omega) (by omega)
          have hxk := HW.out k
          obtain ⟨x, hx⟩ : ∃ x : Nat, xs.getD k 0 = x := Int.eq_ofNat_of_zero_le hxk.1
          unfold rdOf at hx1
          rw [Int.toNat_natCast] at hx1 hf1
          rw [hx] at hx1 hxk
          have hkb : decide ((k : Int) < (xs.length : Int)) = true := decide_eq_true (by omega)
          have hst : xs.take (k + 1) = xs.take k ++ [(x : Int)] := by
            rw [List.take_succ_eq_append_getElem hkl, ← hx, List.getD_eq_getElem?_getD, List.getElem?_eq_getElem hkl]
            rfl
          have hlt' : (xs.take k).length = k := by rw [List.length_take]; omega
          have hpl := pack_length (xs.take k)
          rw [hlt'] at hpl
          obtain ⟨m, hmm⟩ : ∃ m, k / 2 = m := ⟨_, rfl⟩
          rcases (by omega : k = 2 * m ∨ k = 2 * m + 1) with hm | hm
          · have r1 : (k : Int) % 2 = 0 := by omega
            have r2 : (k : Int).tmod 2 = 0 := by rw [Int.tmod_eq_emod_of_nonneg (by omega)]; exact r1
            have HPP : Aside0 (pack (xs.take (k + 1)) = pack (xs.take k) ++ [(x : Int)]) := ⟨by rw [hst]; exact pack_even _ _ m (hlt'.trans hm)⟩
            clear hst hlt' hx
            generalize pack (xs.take k) = ps at HP HPP hpl
            obtain ⟨A6, c6, e6', hc6, -⟩ := Kd.R_reads HP.out
            subst e6'
            clear hm hmm
            go_wp2_with (first | ((with_reducible refine gate_builtin (b := .append) (xs := #[.tmp 114, .tmp 119]) rfl ?_); at_builtin; go_must (refine Kd.R_append (Kd.int .u64) (w0 := w) w.heap.size rfl (.tmp 114) (.tmp 119) 64 81 (.int .u64 0) 8 rfl Try.underlying64 DecMake.info81 rfl (by decide) (by omega) (.slice A6 ps.length c6) ps ((x : Int)) [.int .u64 (x : Int)] (fun _ => True) (fun _ => False) rfl rfl rfl (fun _ hk => hk.elim) (fun _ _ => trivial) HP.out HB.out HB.out.size (by omega) ?_); intro v1 w1 ho hb hg hat; have HP1 := Aside0.mk ho; have HB1 := Aside0.mk hb; have HO1 := Aside0.mk (Kd.R_over HO.out HP.out (by intro t ht h; subst h; simp [Kd.int, Kd.scalar] at ht) hg); clear ho hb hg hat HP HB HO))
            go_roundw
            case rel => exact ⟨k + 1, by go_num, by omega, HO1, ⟨by rw [HPP.out]; exact HP1.out⟩, HB1⟩
            case measure => simp [intOf]; omega
          · have r1 : (k : Int) % 2 = 1 := by omega
            have r2 : (k : Int).tmod 2 = 1 := by rw [Int.tmod_eq_emod_of_nonneg (by omega)]; exact r1
            have r3 : (k : Int).tdiv 2 = m := by rw [Int.tdiv_eq_ediv_of_nonneg (by omega)]; omega
            have hpo := pack_odd (xs.take k) (x : Int) m (hlt'.trans hm)
            have hyk : (pack (xs.take k)).getD m 0 = xs.getD (2 * m) 0 := by
              rw [hpo.2, List.getD_eq_getElem?_getD, List.getD_eq_getElem?_getD, List.getElem?_take, if_pos (by omega)]
            have hyr := HW.out (2 * m)
            obtain ⟨y, hy⟩ : ∃ y : Nat, xs.getD (2 * m) 0 = y := Int.eq_ofNat_of_zero_le hyr.1
            rw [hy] at hyk hyr
            have HPP : Aside0 (pack (xs.take (k + 1)) = (pack (xs.take k)).set m ((y : Int) + 4294967296 * (x : Int))) := ⟨by rw [hst, hpo.1, hyk]⟩
            clear hst hlt' hx hpo hy
            generalize pack (xs.take k) = ps at HP HPP hpl hyk
            obtain ⟨g6, c6, eg, hg6, -, cells, hcells⟩ := Kd.R_form HP.out (show 0 < ps.length by omega)
            subst eg
            obtain ⟨hy1, hf6⟩ := Kd.R_celln 0 HP.out (m : Int) (by omega) (by omega)
            unfold rdOf at hy1
            rw [Int.toNat_natCast] at hy1 hf6
            rw [hyk] at hy1
            have hor := or64 y x (by omega) (by omega)
            have HP1 := Aside0.mk (Kd.R_putn HP.out (m : Int) ((y + 4294967296 * x : Nat) : Int))
            rw [Int.toNat_natCast] at HP1
            have HO1 := Aside0.mk (Kd.R_set HO.out hcells (by intro q hq h; subst h; simp [Kd.int, Kd.scalar] at hq) m (.int .u64 ((y + 4294967296 * x : Nat) : Int)))
            have HB1 : Aside0 (Below w.heap.size w (wr.setCell ⟨g6, m, none⟩ (.int .u64 ((y + 4294967296 * x : Nat) : Int)))) := ⟨below_set HB.out hg6⟩
            have HMM : Aside0 (m < ps.length) := ⟨by omega⟩
            obtain ⟨z, hz⟩ : ∃ z, y + 4294967296 * x = z := ⟨_, rfl⟩
            have HZ : Aside0 ((z : Int) = (y : Int) + 4294967296 * (x : Int)) := ⟨by omega⟩
            have hzb : z < 18446744073709551616 := by omega
            rw [hz] at hor HP1 HO1 HB1
            have hmp : (m : Int) < (ps.length : Int) := by omega
            clear hm hz hcells hyk HP HO HB hmm
            go_wp2
            go_region
            go_wp2
            go_roundw
            case rel => exact ⟨k + 1, by go_num, by omega, ⟨Kd.R_drew HO1.out⟩, ⟨by rw [HPP.out, ← HZ.out]; exact Kd.R_drew HP1.out⟩, ⟨below_drew HB1.out⟩⟩
            case measure => simp [intOf]; omega
        · obtain rfl : k = xs.length := by omega
          rw [List.take_length] at HP
          obtain ⟨A6, c6, e6', hc6, -⟩ := Kd.R_reads HP.out
          subst e6'
          have HV6 : Aside0 (v64 (pack xs) = (N : Int)) := ⟨by rw [v64_pack]; exact HVN.out⟩
          have HI6 : Aside0 (In64 (pack xs)) := ⟨pack_in xs HW.out⟩
          have hpl := pack_length xs
          generalize pack xs = ps at HP HV6 HI6 hpl
          have hpl2 : ps.length ≤ 60 := by omega
          have HSB := Lib.hid (setBits_any A6 c6 wr.heap.size w.heap.size ps (fun k => k < wr.heap.size) (wr.alloc (.cells #[.bool false, .slice none 0 0] 67)) (fun k hk => by omega) (by simp) (by simp) (by simp) (by simp) HB.out.size (Kd.R_alloc (Kd.R_mono (Kd.R_bound HP.out) (fun k hk => hk.2.2.1)) _) HI6.out (by omega))
          have HBA := Aside0.mk (below_at HB.out (.cells #[.bool false, .slice none 0 0] 67))
          have HBS := Aside0.mk HB.out.size
          clear HO HP HB hpl HI6 HVN
          go_wp2_with (first | (go_at_call 45; go_must (refine HSB.out.mono ?_); rintro e w1 ⟨rfl, vs, hn, ho, hb⟩; have HN := Aside0.mk hn; have HOW := Aside0.mk ho; have HB1 := Aside0.mk (HBA.out.trans hb); clear hn ho hb))
          go_ret2
          exact ⟨wr.heap.size, vs, rfl, HBS.out, HOW.out, HN.out.inn, HN.out.val.trans HV6.out, by rw [HN.out.pos, HN.out.val, HV6.out]; exact Int.natCast_pos, by have := HN.out.le; omega, HB1.out⟩
set_option maxHeartbeats 4000000 in
set_option maxRecDepth 100000 in
theorem whole_neg (s t : ByteArray) (L N : Nat) (w : World) (h : Dg t L N) (h0 : 0 < L) (hL : L ≤ 60) (hd : bt t 0 ≠ 48) (hpos : 0 < N) (hss : s.size = L + 1) (hs45 : bt s 0 = 45) (hext : s.extract 1 (L + 1) = t) :
    Calls Try.prog 32 #[.string s] w fun e w' => ∃ g vs, e = .returned (.tuple #[.pointer (some ⟨g, 0, none⟩), .bool true]) ∧ w.heap.size ≤ g ∧ Own w' w.heap.size g true vs ∧ In64 vs ∧ v64 vs = N ∧ (0 < vs.length ↔ 0 < N) ∧ vs.length < 100 ∧ Below w.heap.size w w' := by
  have hsz := h.size
  have hs : 0 < t.size := by omega
  have hs1 : 0 < s.size := by omega
  have hb2 : ((t[0]'hs).toNat : Int) = bt t 0 := bt_at t 0 (by simpa using hs)
  have hb3 : ((s[0]'hs1).toNat : Int) = bt s 0 := bt_at s 0 (by simpa using hs1)
  have e1 : (((s[0]'hs1).toNat : Int) == 45) = true := by
    rw [hb3, hs45]; rfl
  have e2 : (((t[0]'hs).toNat : Int) == 48) = false := by
    rw [hb2]; exact beq_false_of_ne hd
  have e8 : decide (0 < (L : Int) + 1) = true := decide_eq_true (by omega)
  have HPOS := Aside0.mk hpos
  have e3 : decide (0 < (L : Int)) = true := decide_eq_true (by omega)
  have e4 : decide (400 < (L : Int)) = false := decide_eq_false (by omega)
  have e5 : decide ((L : Int) = 0) = false := decide_eq_false (by omega)
  have e6 : ((L : Int) == 0) = false := beq_false_of_ne (by omega)
  have HG := Aside0.mk h
  have HB := Aside0.mk (Below.refl w.heap.size w)
  clear hb2 hb3 h hs45 hpos
  go_enter Try.func32, Try.ntmps32
  go_wp2
  have hN : N < 10 ^ L := HG.out.lt
  have hN' := Aside0.mk hN
  clear hN e1 e2 hs hd hs1
  go_loopw [5, 6] (fun v5 v6 w' => ∃ (i : Nat) (xs : List Int), v6 = .int .i64 i ∧ i ≤ L ∧ xs.length ≤ i ∧ Aside0 (W32 xs) ∧ Aside0 (v32 xs = ((N / 10 ^ (L - i) : Nat) : Int)) ∧ Aside0 (Kd.R (Kd.int .u64) 22 w' w.heap.size (fun _ => True) v5 xs) ∧ Aside0 (Below w.heap.size w w')) (fun _ v6 _ => L - (intOf v6).toNat)
  case atStart => exact ⟨0, [], rfl, by omega, by simp, ⟨W32_nil⟩, ⟨by rw [Nat.sub_zero, Nat.div_eq_of_lt hN'.out]; rfl⟩, ⟨Kd.R_nil _ _ _ _ _⟩, HB⟩
  case round =>
    clear HB
    obtain ⟨i, xs, rfl, hi, hxl, HW, HV, HO, HB⟩ := hrel
    by_cases hlt : i < L
    · have g1 : decide ((i : Int) < (L : Int)) = true := decide_eq_true (by omega)
      go_wp2
      go_loop [6, 7, 8] (fun v6 v7 v8 => ∃ (j n sc : Nat), v6 = .int .i64 j ∧ v7 = .int .u64 n ∧ v8 = .int .u64 sc ∧ i ≤ j ∧ j ≤ L ∧ n < sc ∧ sc ≤ 1000000000 ∧ Aside0 (sc = 10 ^ (j - i)) ∧ Aside0 (n = N / 10 ^ (L - j) % 10 ^ (j - i))) (fun v6 _ _ => L - (intOf v6).toNat)
      case atStart => exact ⟨i, 0, 1, rfl, rfl, rfl, by omega, hi, by omega, by omega, ⟨by rw [Nat.sub_self]⟩, ⟨by rw [Nat.sub_self]; omega⟩⟩
      case round =>
        obtain ⟨j, n, sc, rfl, rfl, rfl, hij, hjL, hns, hsc, HSC, HNN⟩ := hrel
        by_cases hcont : j < L ∧ sc < 1000000000
        · obtain ⟨hc1, hc2⟩ := hcont
          have g2 : decide ((j : Int) < (L : Int)) = true := decide_eq_true (by omega)
          have g3 : decide ((sc : Int) < 1000000000) = true := decide_eq_true (by omega)
          have hjt : j < t.size := by omega
          obtain ⟨c, hc⟩ : ∃ c, N / 10 ^ (L - 1 - j) % 10 = c := ⟨_, rfl⟩
          obtain ⟨b, hbc⟩ : ∃ b, 48 + c = b := ⟨_, rfl⟩
          have HB3 := Aside0.mk (show ((t[j]'hjt).toNat : Int) = ((b : Nat) : Int) from (bt_at t j (by omega)).trans ((HG.out.at_ j hc1).trans (by rw [hc, hbc])))
          have hc10 : c < 10 := by rw [← hc]; exact Nat.mod_lt _ (by decide)
          have HST := Aside0.mk (digit_step N L j i hc1 hij)
          rw [hc] at HST
          have HBC := Aside0.mk hbc
          have k1 : (48 : Int) ≤ (b : Int) := by omega
          have k2 : ¬ (57 : Int) < (b : Int) := by omega
          have k3 : decide ((b : Int) < 48) = false := decide_eq_false (by omega)
          have k4 : decide ((57 : Int) < (b : Int)) = false := decide_eq_false (by omega)
          have HC10 := Aside0.mk hc10
          clear hc hbc hc10
          go_wp2_with (simp only [HB3.out])
          have HS10 : Aside0 (sc * 10 ≤ 1000000000 ∧ sc * 10 = 10 ^ (j + 1 - i)) := ⟨by
            have e : sc * 10 = 10 ^ (j + 1 - i) := by rw [HSC.out, show j + 1 - i = (j - i) + 1 by omega, Nat.pow_succ]
            refine ⟨?_, e⟩
            have h1 : j - i < 9 := by
              rcases Nat.lt_or_ge (j - i) 9 with h | h
              · exact h
              · have := Nat.pow_le_pow_right (show 0 < 10 by decide) h
                rw [← HSC.out] at this
                omega
            rw [e]
            exact Nat.pow_le_pow_right (show 0 < 10 by decide) (show j + 1 - i ≤ 9 by omega)⟩
          have HN1 : Aside0 (n * 10 + c = N / 10 ^ (L - (j + 1)) % 10 ^ (j + 1 - i)) := ⟨by rw [HST.out, ← HNN.out]; omega⟩
          go_round
          case rel => exact ⟨j + 1, n * 10 + c, sc * 10, by go_num, congrArg (Value.int .u64) (by have := HBC.out; omega), by go_num, by omega, by omega, by have := HC10.out; omega, HS10.out.1, ⟨HS10.out.2⟩, HN1⟩
          case measure => simp [intOf]; omega
        · have HM0 : Aside0 (Muled xs xs 0 sc n n) := ⟨Muled.start xs HW.out sc n hns⟩
          have hij9 : i < j := by
            rcases Nat.lt_or_ge i j with h | h
            · exact h
            · obtain rfl : i = j := by omega
              have h1 := HSC.out
              rw [Nat.sub_self] at h1
              omega
          have HJN : Aside0 (((N / 10 ^ (L - j) : Nat) : Int) = v32 xs * sc + n) := ⟨by
            rw [HV.out, HSC.out, HNN.out, ← Int.natCast_mul, ← Int.natCast_add, ← pfx_join N L i j hij hjL]⟩
          have hxl2 : xs.length ≤ 60 := by omega
          obtain ⟨A5, c5, e5', hc5, -⟩ := Kd.R_reads HO.out
          subst e5'
          rcases (by omega : ¬ j < L ∨ (j < L ∧ ¬ sc < 1000000000)) with hx | ⟨hx, hy⟩
          · have g2 : decide ((j : Int) < (L : Int)) = false := decide_eq_false (by omega)
            clear hcont
            go_wp2
            go_loopw [7, 81] (fun v7 v81 w' => ∃ (ys : List Int) (k m : Nat), v7 = .int .u64 m ∧ v81 = .int .i64 k ∧ k ≤ xs.length ∧ m < sc ∧ Aside0 (Muled xs ys k sc n m) ∧ Aside0 (Kd.R (Kd.int .u64) 22 w' w.heap.size (fun _ => True) (.slice A5 xs.length c5) ys) ∧ Aside0 (Below w.heap.size w w')) (fun _ v81 _ => xs.length - (intOf v81).toNat)
            case atStart => exact ⟨xs, 0, n, rfl, rfl, by omega, hns, HM0, HO, HB⟩
            case round =>
              clear HM0 HO HB
              obtain ⟨ys, k, m, rfl, rfl, hk, hm, HM, HO, HB⟩ := hrel
              have hyl := HM.out.len
              by_cases hkl : k < xs.length
              · obtain ⟨g3, c4, eg, hg3, -, -⟩ := Kd.R_form HO.out (show 0 < ys.length by omega)
                injection eg with ea eb ec
                subst ea
                clear eb ec
                obtain ⟨hx1, hf1⟩ := Kd.R_celln 0 HO.out (k : Int) (by omega) (by omega)
                have hxk := HW.out k
                obtain ⟨x, hx⟩ : ∃ x : Nat, xs.getD k 0 = x := Int.eq_ofNat_of_zero_le hxk.1
                unfold rdOf at hx1
                rw [Int.toNat_natCast] at hx1 hf1
                rw [HM.out.rest k (Nat.le_refl _), hx] at hx1
                rw [hx] at hxk
                have hst := HM.out.step hkl HW.out hsc hx
                have hpb : x * sc ≤ 4294967295 * 1000000000 := Nat.mul_le_mul (by omega) hsc
                obtain ⟨p, hp⟩ : ∃ p, x * sc = p := ⟨_, rfl⟩
                rw [hp] at hpb hst
                have hxp : (x : Int) * (sc : Int) = (p : Int) := by rw [← Int.natCast_mul, hp]
                obtain ⟨q, hq⟩ : ∃ q, m + p = q := ⟨_, rfl⟩
                rw [hq] at hst
                have hmq : (m : Int) + (p : Int) = (q : Int) := by omega
                have hqb : q < 18446744073709551616 := by omega
                have hand := and32 q hqb
                have HP1 := Aside0.mk (Kd.R_putn HO.out (k : Int) ((q % 4294967296 : Nat) : Int))
                rw [Int.toNat_natCast] at HP1
                have HST := Aside0.mk hst
                have HB2 : Aside0 (Below w.heap.size w (wr.setCell ⟨g3, k, none⟩ (.int .u64 ((q % 4294967296 : Nat) : Int)))) := ⟨below_set HB.out hg3⟩
                have hkb : decide ((k : Int) < (xs.length : Int)) = true := decide_eq_true (by omega)
                clear hp hq hpb hst hx HO HM HB
                go_wp2
                go_roundw
                case rel => exact ⟨_, k + 1, q / 4294967296, by go_num, by go_num, by omega, HST.out.left, HST, HP1, HB2⟩
                case measure => simp [intOf]; omega
              · obtain rfl : k = xs.length := by omega
                have HD : Aside0 (v32 ys + 4294967296 ^ xs.length * (m : Int) = ((N / 10 ^ (L - j) : Nat) : Int)) := ⟨by rw [HM.out.done, HJN.out]⟩
                have HYW := Aside0.mk HM.out.w32
                rcases (by omega : m = 0 ∨ 0 < m) with hm0 | hm0
                · subst hm0
                  have HV2 : Aside0 (v32 ys = ((N / 10 ^ (L - j) : Nat) : Int)) := ⟨by have := HD.out; simpa using this⟩
                  clear HD HM
                  go_wp2
                  go_roundw
                  case rel => exact ⟨j, ys, rfl, by omega, by omega, HYW, HV2, HO, HB⟩
                  case measure => simp [intOf]; omega
                · have hmb : decide (0 < (m : Int)) = true := decide_eq_true (by omega)
                  have HW3 : Aside0 (W32 (ys ++ [(m : Int)])) := ⟨W32_snoc HYW.out _ (by omega) (by omega)⟩
                  have HV3 : Aside0 (v32 (ys ++ [(m : Int)]) = ((N / 10 ^ (L - j) : Nat) : Int)) := ⟨by rw [v32_one, hyl]; exact HD.out⟩
                  clear HD HM
                  go_wp2_with (first | ((with_reducible refine gate_builtin (b := .append) (xs := #[.tmp 102, .tmp 104]) rfl ?_); at_builtin; go_must (refine Kd.R_append (Kd.int .u64) (w0 := w) w.heap.size rfl (.tmp 102) (.tmp 104) 78 22 (.int .u64 0) 8 rfl Try.underlying78 info22 rfl (by decide) (by omega) (.slice A5 xs.length c5) ys ((m : Int)) [.int .u64 (m : Int)] (fun _ => True) (fun _ => False) rfl rfl rfl (fun _ hk => hk.elim) (fun _ _ => trivial) HO.out HB.out HB.out.size (by omega) ?_); intro v1 w1 ho hb hg hat; have HO1 := Aside0.mk ho; have HB1 := Aside0.mk hb; clear ho hb hg hat HO HB))
                  go_roundw
                  case rel => exact ⟨j, _, rfl, by omega, by simp; omega, HW3, HV3, HO1, HB1⟩
                  case measure => simp [intOf]; omega
          · have g2 : decide ((j : Int) < (L : Int)) = true := decide_eq_true (by omega)
            have g3 : decide ((sc : Int) < 1000000000) = false := decide_eq_false (by omega)
            clear hcont
            go_wp2
            go_loopw [7, 81] (fun v7 v81 w' => ∃ (ys : List Int) (k m : Nat), v7 = .int .u64 m ∧ v81 = .int .i64 k ∧ k ≤ xs.length ∧ m < sc ∧ Aside0 (Muled xs ys k sc n m) ∧ Aside0 (Kd.R (Kd.int .u64) 22 w' w.heap.size (fun _ => True) (.slice A5 xs.length c5) ys) ∧ Aside0 (Below w.heap.size w w')) (fun _ v81 _ => xs.length - (intOf v81).toNat)
            case atStart => exact ⟨xs, 0, n, rfl, rfl, by omega, hns, HM0, HO, HB⟩
            case round =>
              clear HM0 HO HB
              obtain ⟨ys, k, m, rfl, rfl, hk, hm, HM, HO, HB⟩ := hrel
              have hyl := HM.out.len
              by_cases hkl : k < xs.length
              · obtain ⟨g3, c4, eg, hg3, -, -⟩ := Kd.R_form HO.out (show 0 < ys.length by omega)
                injection eg with ea eb ec
                subst ea
                clear eb ec
                obtain ⟨hx1, hf1⟩ := Kd.R_celln 0 HO.out (k : Int) (by omega) (by omega)
                have hxk := HW.out k
                obtain ⟨x, hx⟩ : ∃ x : Nat, xs.getD k 0 = x := Int.eq_ofNat_of_zero_le hxk.1
                unfold rdOf at hx1
                rw [Int.toNat_natCast] at hx1 hf1
                rw [HM.out.rest k (Nat.le_refl _), hx] at hx1
                rw [hx] at hxk
                have hst := HM.out.step hkl HW.out hsc hx
                have hpb : x * sc ≤ 4294967295 * 1000000000 := Nat.mul_le_mul (by omega) hsc
                obtain ⟨p, hp⟩ : ∃ p, x * sc = p := ⟨_, rfl⟩
                rw [hp] at hpb hst
                have hxp : (x : Int) * (sc : Int) = (p : Int) := by rw [← Int.natCast_mul, hp]
                obtain ⟨q, hq⟩ : ∃ q, m + p = q := ⟨_, rfl⟩
                rw [hq] at hst
                have hmq : (m : Int) + (p : Int) = (q : Int) := by omega
                have hqb : q < 18446744073709551616 := by omega
                have hand := and32 q hqb
                have HP1 := Aside0.mk (Kd.R_putn HO.out (k : Int) ((q % 4294967296 : Nat) : Int))
                rw [Int.toNat_natCast] at HP1
                have HST := Aside0.mk hst
                have HB2 : Aside0 (Below w.heap.size w (wr.setCell ⟨g3, k, none⟩ (.int .u64 ((q % 4294967296 : Nat) : Int)))) := ⟨below_set HB.out hg3⟩
                have hkb : decide ((k : Int) < (xs.length : Int)) = true := decide_eq_true (by omega)
                clear hp hq hpb hst hx HO HM HB
                go_wp2
                go_roundw
                case rel => exact ⟨_, k + 1, q / 4294967296, by go_num, by go_num, by omega, HST.out.left, HST, HP1, HB2⟩
                case measure => simp [intOf]; omega
              · obtain rfl : k = xs.length := by omega
                have HD : Aside0 (v32 ys + 4294967296 ^ xs.length * (m : Int) = ((N / 10 ^ (L - j) : Nat) : Int)) := ⟨by rw [HM.out.done, HJN.out]⟩
                have HYW := Aside0.mk HM.out.w32
                rcases (by omega : m = 0 ∨ 0 < m) with hm0 | hm0
                · subst hm0
                  have HV2 : Aside0 (v32 ys = ((N / 10 ^ (L - j) : Nat) : Int)) := ⟨by have := HD.out; simpa using this⟩
                  clear HD HM
                  go_wp2
                  go_roundw
                  case rel => exact ⟨j, ys, rfl, by omega, by omega, HYW, HV2, HO, HB⟩
                  case measure => simp [intOf]; omega
                · have hmb : decide (0 < (m : Int)) = true := decide_eq_true (by omega)
                  have HW3 : Aside0 (W32 (ys ++ [(m : Int)])) := ⟨W32_snoc HYW.out _ (by omega) (by omega)⟩
                  have HV3 : Aside0 (v32 (ys ++ [(m : Int)]) = ((N / 10 ^ (L - j) : Nat) : Int)) := ⟨by rw [v32_one, hyl]; exact HD.out⟩
                  clear HD HM
                  go_wp2_with (first | ((with_reducible refine gate_builtin (b := .append) (xs := #[.tmp 102, .tmp 104]) rfl ?_); at_builtin; go_must (refine Kd.R_append (Kd.int .u64) (w0 := w) w.heap.size rfl (.tmp 102) (.tmp 104) 78 22 (.int .u64 0) 8 rfl Try.underlying78 info22 rfl (by decide) (by omega) (.slice A5 xs.length c5) ys ((m : Int)) [.int .u64 (m : Int)] (fun _ => True) (fun _ => False) rfl rfl rfl (fun _ hk => hk.elim) (fun _ _ => trivial) HO.out HB.out HB.out.size (by omega) ?_); intro v1 w1 ho hb hg hat; have HO1 := Aside0.mk ho; have HB1 := Aside0.mk hb; clear ho hb hg hat HO HB))
                  go_roundw
                  case rel => exact ⟨j, _, rfl, by omega, by simp; omega, HW3, HV3, HO1, HB1⟩
                  case measure => simp [intOf]; omega
    · obtain rfl : i = L := by omega
      have g1 : decide ((i : Int) < (i : Int)) = false := decide_eq_false (by omega)
      have HVN : Aside0 (v32 xs = (N : Int)) := ⟨by rw [HV.out, Nat.sub_self, Nat.pow_zero, Nat.div_one]⟩
      have hxl2 : xs.length ≤ 60 := by omega
      obtain ⟨A5, c5, e5', hc5, -⟩ := Kd.R_reads HO.out
      subst e5'
      clear HV
      go_wp2
      go_loopw [10, 108] (fun v10 v108 w' => ∃ (k : Nat), v108 = .int .i64 k ∧ k ≤ xs.length ∧ Aside0 (Kd.R (Kd.int .u64) 22 w' w.heap.size (fun _ => True) (.slice A5 xs.length c5) xs) ∧ Aside0 (Kd.R (Kd.int .u64) 81 w' w.heap.size (fun _ => True) v10 (pack (xs.take k))) ∧ Aside0 (Below w.heap.size w w')) (fun _ v108 _ => xs.length - (intOf v108).toNat)
      case atStart => exact ⟨0, rfl, by omega, HO, ⟨Kd.R_nil _ _ _ _ _⟩, HB⟩
      case round =>
        clear HO HB
        obtain ⟨k, rfl, hk, HO, HP, HB⟩ := hrel
        by_cases hkl : k < xs.length
        · obtain ⟨g3, c4, eg, hg3, -, -⟩ := Kd.R_form HO.out (show 0 < xs.length by omega)
          injection eg with ea eb ec
          subst ea
          clear eb ec
          obtain ⟨hx1, hf1⟩ := Kd.R_celln 0 HO.out (k : Int) (by omega) (by omega)
          have hxk := HW.out k
          obtain ⟨x, hx⟩ : ∃ x : Nat, xs.getD k 0 = x := Int.eq_ofNat_of_zero_le hxk.1
          unfold rdOf at hx1
          rw [Int.toNat_natCast] at hx1 hf1
          rw [hx] at hx1 hxk
          have hkb : decide ((k : Int) < (xs.length : Int)) = true := decide_eq_true (by omega)
          have hst : xs.take (k + 1) = xs.take k ++ [(x : Int)] := by
            rw [List.take_succ_eq_append_getElem hkl, ← hx, List.getD_eq_getElem?_getD, List.getElem?_eq_getElem hkl]
            rfl
          have hlt' : (xs.take k).length = k := by rw [List.length_take]; omega
          have hpl := pack_length (xs.take k)
          rw [hlt'] at hpl
          obtain ⟨m, hmm⟩ : ∃ m, k / 2 = m := ⟨_, rfl⟩
          rcases (by omega : k = 2 * m ∨ k = 2 * m + 1) with hm | hm
          · have r1 : (k : Int) % 2 = 0 := by omega
            have r2 : (k : Int).tmod 2 = 0 := by rw [Int.tmod_eq_emod_of_nonneg (by omega)]; exact r1
            have HPP : Aside0 (pack (xs.take (k + 1)) = pack (xs.take k) ++ [(x : Int)]) := ⟨by rw [hst]; exact pack_even _ _ m (hlt'.trans hm)⟩
            clear hst hlt' hx
            generalize pack (xs.take k) = ps at HP HPP hpl
            obtain ⟨A6, c6, e6', hc6, -⟩ := Kd.R_reads HP.out
            subst e6'
            clear hm hmm
            go_wp2_with (first | ((with_reducible refine gate_builtin (b := .append) (xs := #[.tmp 114, .tmp 119]) rfl ?_); at_builtin; go_must (refine Kd.R_append (Kd.int .u64) (w0 := w) w.heap.size rfl (.tmp 114) (.tmp 119) 64 81 (.int .u64 0) 8 rfl Try.underlying64 DecMake.info81 rfl (by decide) (by omega) (.slice A6 ps.length c6) ps ((x : Int)) [.int .u64 (x : Int)] (fun _ => True) (fun _ => False) rfl rfl rfl (fun _ hk => hk.elim) (fun _ _ => trivial) HP.out HB.out HB.out.size (by omega) ?_); intro v1 w1 ho hb hg hat; have HP1 := Aside0.mk ho; have HB1 := Aside0.mk hb; have HO1 := Aside0.mk (Kd.R_over HO.out HP.out (by intro t ht h; subst h; simp [Kd.int, Kd.scalar] at ht) hg); clear ho hb hg hat HP HB HO))
            go_roundw
            case rel => exact ⟨k + 1, by go_num, by omega, HO1, ⟨by rw [HPP.out]; exact HP1.out⟩, HB1⟩
            case measure => simp [intOf]; omega
          · have r1 : (k : Int) % 2 = 1 := by omega
            have r2 : (k : Int).tmod 2 = 1 := by rw [Int.tmod_eq_emod_of_nonneg (by omega)]; exact r1
            have r3 : (k : Int).tdiv 2 = m := by rw [Int.tdiv_eq_ediv_of_nonneg (by omega)]; omega
            have hpo := pack_odd (xs.take k) (x : Int) m (hlt'.trans hm)
            have hyk : (pack (xs.take k)).getD m 0 = xs.getD (2 * m) 0 := by
              rw [hpo.2, List.getD_eq_getElem?_getD, List.getD_eq_getElem?_getD, List.getElem?_take, if_pos (by omega)]
            have hyr := HW.out (2 * m)
            obtain ⟨y, hy⟩ : ∃ y : Nat, xs.getD (2 * m) 0 = y := Int.eq_ofNat_of_zero_le hyr.1
            rw [hy] at hyk hyr
            have HPP : Aside0 (pack (xs.take (k + 1)) = (pack (xs.take k)).set m ((y : Int) + 4294967296 * (x : Int))) := ⟨by rw [hst, hpo.1, hyk]⟩
            clear hst hlt' hx hpo hy
            generalize pack (xs.take k) = ps at HP HPP hpl hyk
            obtain ⟨g6, c6, eg, hg6, -, cells, hcells⟩ := Kd.R_form HP.out (show 0 < ps.length by omega)
            subst eg
            obtain ⟨hy1, hf6⟩ := Kd.R_celln 0 HP.out (m : Int) (by omega) (by omega)
            unfold rdOf at hy1
            rw [Int.toNat_natCast] at hy1 hf6
            rw [hyk] at hy1
            have hor := or64 y x (by omega) (by omega)
            have HP1 := Aside0.mk (Kd.R_putn HP.out (m : Int) ((y + 4294967296 * x : Nat) : Int))
            rw [Int.toNat_natCast] at HP1
            have HO1 := Aside0.mk (Kd.R_set HO.out hcells (by intro q hq h; subst h; simp [Kd.int, Kd.scalar] at hq) m (.int .u64 ((y + 4294967296 * x : Nat) : Int)))
            have HB1 : Aside0 (Below w.heap.size w (wr.setCell ⟨g6, m, none⟩ (.int .u64 ((y + 4294967296 * x : Nat) : Int)))) := ⟨below_set HB.out hg6⟩
            have HMM : Aside0 (m < ps.length) := ⟨by omega⟩
            obtain ⟨z, hz⟩ : ∃ z, y + 4294967296 * x = z := ⟨_, rfl⟩
            have HZ : Aside0 ((z : Int) = (y : Int) + 4294967296 * (x : Int)) := ⟨by omega⟩
            have hzb : z < 18446744073709551616 := by omega
            rw [hz] at hor HP1 HO1 HB1
            have hmp : (m : Int) < (ps.length : Int) := by omega
            clear hm hz hcells hyk HP HO HB hmm
            go_wp2
            go_region
            go_wp2
            go_roundw
            case rel => exact ⟨k + 1, by go_num, by omega, ⟨Kd.R_drew HO1.out⟩, ⟨by rw [HPP.out, ← HZ.out]; exact Kd.R_drew HP1.out⟩, ⟨below_drew HB1.out⟩⟩
            case measure => simp [intOf]; omega
        · obtain rfl : k = xs.length := by omega
          rw [List.take_length] at HP
          obtain ⟨A6, c6, e6', hc6, -⟩ := Kd.R_reads HP.out
          subst e6'
          have HV6 : Aside0 (v64 (pack xs) = (N : Int)) := ⟨by rw [v64_pack]; exact HVN.out⟩
          have HI6 : Aside0 (In64 (pack xs)) := ⟨pack_in xs HW.out⟩
          have hpl := pack_length xs
          generalize pack xs = ps at HP HV6 HI6 hpl
          have hpl2 : ps.length ≤ 60 := by omega
          have HSB := Lib.hid (setBits_any A6 c6 wr.heap.size w.heap.size ps (fun k => k < wr.heap.size) (wr.alloc (.cells #[.bool false, .slice none 0 0] 67)) (fun k hk => by omega) (by simp) (by simp) (by simp) (by simp) HB.out.size (Kd.R_alloc (Kd.R_mono (Kd.R_bound HP.out) (fun k hk => hk.2.2.1)) _) HI6.out (by omega))
          have HBA := Aside0.mk (below_at HB.out (.cells #[.bool false, .slice none 0 0] 67))
          have HBS := Aside0.mk HB.out.size
          clear HO HP HB hpl HI6 HVN
          go_wp2_with (first | (go_at_call 45; go_must (refine HSB.out.mono ?_); rintro e w1 ⟨rfl, vs, hn, ho, hb⟩; have HN := Aside0.mk hn; have HOW := Aside0.mk ho; have HB1 := Aside0.mk (HBA.out.trans hb); clear hn ho hb) | (go_at_call 46; go_must (refine (neg_any _ w.heap.size _ _ HOW.out (HN.out.pos.2 (by rw [HN.out.val, HV6.out]; exact Int.natCast_pos.2 HPOS.out)) HBS.out).mono ?_); rintro e w2 ⟨rfl, ho, hb⟩; have HOW2 := Aside0.mk ho; have HB2 := Aside0.mk (HB1.out.trans hb); clear ho hb))
          go_ret2
          exact ⟨wr.heap.size, vs, rfl, HBS.out, HOW2.out, HN.out.inn, HN.out.val.trans HV6.out, by rw [HN.out.pos, HN.out.val, HV6.out]; exact Int.natCast_pos, by have := HN.out.le; omega, HB2.out⟩
end Go.Proofs.Ythkmgjkajllemaa.BigIn

/- The thin package's decimals out of their texts, and Shift. -/
namespace Go.Proofs.Ythkmgjkajllemaa.Made
open Go.RowKit Go.Proofs.YthkmgjkajllemaaW.PrintWords Go.Proofs.YthkmgjkajllemaaW.PrintLast Go.Proofs.YthkmgjkajllemaaW.PrintMore Go.Proofs.Ythkmgjkajllemaa.Num Go.Proofs.Ythkmgjkajllemaa.Big Go.Proofs.Ythkmgjkajllemaa.Wsum Go.Proofs.Ythkmgjkajllemaa.DecMake Go.Proofs.Ythkmgjkajllemaa.Mem Go.Proofs.Ythkmgjkajllemaa.BigSet Go.Proofs.Ythkmgjkajllemaa.BigIn Go.Proofs.Ythkmgjkajllemaa.NatOf Go.Proofs.Ythkmgjkajllemaa.Fit
set_option linter.unusedVariables false
set_option linter.unusedSimpArgs false

theorem places_in (e : Int) (w : World) (h1 : -400 ≤ e) (h2 : e ≤ 400) :
    Calls Try.prog 14 #[.int .i64 e] w fun r w' => r = .returned (.bool true) ∧ Below w.heap.size w w' := by
  refine (Pplaces.impl_places.calls e true w ?_).mono ?_
  · unfold Pplaces.impl_places.f
    simp [h1, h2]
  · rintro r w' ⟨rfl, hd⟩
    exact ⟨rfl, hd.below⟩

/-- A big integer in memory, in blocks from b on, as a number. -/
structure IsZ (w : World) (b g : Nat) (neg : Bool) (N : Nat) : Prop where
  lo : b ≤ g
  lt : g < w.heap.size
  neg : w.cell? ⟨g, 0, none⟩ = some (.bool neg)
  ex : ∃ vs A c, w.cell? ⟨g, 1, none⟩ = some (.slice A vs.length c) ∧ Kd.R (Kd.int .u64) 81 w b (fun _ => True) (.slice A vs.length c) vs ∧ In64 vs ∧ v64 vs = N ∧ (0 < vs.length ↔ 0 < N) ∧ vs.length < 100
theorem IsZ.below {w w1 : World} {b g : Nat} {neg : Bool} {N : Nat} (h : IsZ w b g neg N) (hb : Below w.heap.size w w1) : IsZ w1 b g neg N := by
  obtain ⟨h1, h2, h3, vs, A, c, h4, h5, h6⟩ := h
  exact ⟨h1, Nat.lt_of_lt_of_le h2 hb.size, pw_cell_below hb h3, vs, A, c, pw_cell_below hb h4, Kd.R_below h5 hb, h6⟩
theorem IsZ.lower {w : World} {b b' g : Nat} {neg : Bool} {N : Nat} (h : IsZ w b g neg N) (hb : b' ≤ b) : IsZ w b' g neg N := by
  obtain ⟨h1, h2, h3, vs, A, c, h4, h5, h6⟩ := h
  exact ⟨Nat.le_trans hb h1, h2, h3, vs, A, c, h4, Kd.R_lower h5 hb, h6⟩
theorem IsZ.set {w : World} {b g : Nat} {neg : Bool} {N : Nat} (h : IsZ w b g neg N) {p : Addr} (hp : p.block < b) (u : Value) : IsZ (w.setCell p u) b g neg N := by
  obtain ⟨h1, h2, h3, vs, A, c, h4, h5, h6⟩ := h
  have hg : p.block ≠ g := by omega
  exact ⟨h1, by simpa using h2, (cell_far (q := ⟨g, 0, none⟩) hg).trans h3, vs, A, c, (cell_far (q := ⟨g, 1, none⟩) hg).trans h4,
    Kd.R_mono (Kd.R_far (Kd.R_bound h5) (fun k hk => by have := hk.2.1; omega) u) (fun _ _ => trivial), h6⟩
theorem IsZ.int {w : World} {b g : Nat} {neg : Bool} {N : Nat} (h : IsZ w b g neg N) : ∃ vs, IsInt w g neg vs ∧ In64 vs ∧ v64 vs = N ∧ (0 < vs.length ↔ 0 < N) ∧ vs.length < 100 := by
  obtain ⟨h1, h2, h3, vs, A, c, h4, h5, h6⟩ := h
  obtain ⟨A', c', e', hc', hC⟩ := Kd.R_reads h5
  cases e'
  exact ⟨vs, ⟨h3, A, c, h4, hc', hC⟩, h6⟩
theorem IsZ.own {w : World} {b g : Nat} {neg : Bool} {N : Nat} {vs : List Int} (h1 : b ≤ g) (h : Own w b g neg vs) (h2 : In64 vs ∧ v64 vs = N ∧ (0 < vs.length ↔ 0 < N) ∧ vs.length < 100) : IsZ w b g neg N := by
  obtain ⟨hi, -, -, hlt, A, c, ok, hc, hr, -⟩ := h
  exact ⟨h1, hlt, hi.neg, vs, A, c, hc, Kd.R_mono hr (fun _ _ => trivial), h2⟩

theorem dg_zero : Dg ⟨#[48]⟩ 1 0 := by
  refine ⟨rfl, fun i hi => ?_, by decide⟩
  obtain rfl : i = 0 := by omega
  decide
theorem text_top (N : Nat) (h : 0 < N) : bt (strOfNums (decs N).reverse) 0 ≠ 48 := by
  have hd := dg_text N h
  have hl : 0 < (decs N).length := by rw [decs_pos h]; simp
  have h1 := hd.at_ 0 hl
  have h2 := hd.lt
  have h3 := decs_low N h
  rw [show ((0 : Nat) : Int) = 0 from rfl, Nat.sub_zero] at h1
  rw [h1]
  have h4 : 1 ≤ N / 10 ^ ((decs N).length - 1) := (Nat.le_div_iff_mul_le (Nat.pow_pos (by decide))).2 (by omega)
  have h5 : N / 10 ^ ((decs N).length - 1) < 10 := by
    refine Nat.div_lt_of_lt_mul ?_
    rw [← Nat.pow_succ, show ((decs N).length - 1).succ = (decs N).length by omega]
    exact h2
  omega

/-- The thin package reads a big integer out of its text. -/
theorem wholeZ (neg : Bool) (N : Nat) (w : World) (hn : neg = true → 0 < N) (hN : N < 10 ^ 60) :
    Calls Try.prog 32 #[.string (textZ neg N)] w fun e w' => ∃ g, e = .returned (.tuple #[.pointer (some ⟨g, 0, none⟩), .bool true]) ∧ IsZ w' w.heap.size g neg N ∧ Below w.heap.size w w' := by
  rcases Nat.eq_zero_or_pos N with h0 | h0
  · subst h0
    have hneg : neg = false := by
      cases neg
      · rfl
      · exact absurd (hn rfl) (by omega)
    subst hneg
    have e : textZ false 0 = ⟨#[48]⟩ := by unfold textZ; rw [if_pos rfl]
    rw [e]
    refine (whole_zero ⟨#[48]⟩ 1 0 w dg_zero (by omega) (by omega) (by decide) (by omega)).mono ?_
    rintro e w' ⟨g, vs, rfl, h1, h2, h3, h4, h5, h6, h7⟩
    exact ⟨g, rfl, IsZ.own h1 h2 ⟨h3, h4, h5, h6⟩, h7⟩
  · have hl := decs_length 60 N hN
    have hp : 0 < (decs N).length := by rw [decs_pos h0]; simp
    cases neg
    · rw [← text_pos N h0]
      refine (whole_pos _ _ N w (dg_text N h0) hp hl (text_top N h0)).mono ?_
      rintro e w' ⟨g, vs, rfl, h1, h2, h3, h4, h5, h6, h7⟩
      exact ⟨g, rfl, IsZ.own h1 h2 ⟨h3, h4, h5, h6⟩, h7⟩
    · have hs : (textZ true N).size = (decs N).length + 1 := by
        rw [← text_neg N h0, ByteArray.size_append, strOfNums_size, List.length_reverse]
        show 1 + _ = _
        omega
      have ht := textZ_tail N h0
      rw [hs] at ht
      refine (whole_neg (textZ true N) _ _ N w (dg_text N h0) hp hl (text_top N h0) h0 hs (textZ_head N h0) ht).mono ?_
      rintro e w' ⟨g, vs, rfl, h1, h2, h3, h4, h5, h6, h7⟩
      exact ⟨g, rfl, IsZ.own h1 h2 ⟨h3, h4, h5, h6⟩, h7⟩

theorem zzMake_any (g : Nat) (e : Int) (w : World) :
    Calls Try.prog 33 #[.pointer (some ⟨g, 0, none⟩), .int .i32 e] w fun r w' => r = .returned (.agg #[.pointer (some ⟨g, 0, none⟩), .int .i32 e]) ∧ Below w.heap.size w w' := by
  go_enter Try.func33, Try.ntmps33
  go_wp2
  exact bodyPost_ret (v := .agg #[.pointer (some ⟨g, 0, none⟩), .int .i32 e]) (by simp [results, Try.results33, go_sem]) rfl ⟨rfl, (Below.refl _ _).alloc (Nat.le_refl _) _⟩
end Go.Proofs.Ythkmgjkajllemaa.Made

/- The reference's functions on natural numbers, as contracts on numbers. -/
namespace Go.Proofs.Ythkmgjkajllemaa.NatOps
open Go.RowKit Go.Proofs.YthkmgjkajllemaaW.PrintWords Go.Proofs.YthkmgjkajllemaaW.PrintLast Go.Proofs.YthkmgjkajllemaaW.PrintMore Go.Proofs.Ythkmgjkajllemaa.Num Go.Proofs.Ythkmgjkajllemaa.Str Go.Proofs.Ythkmgjkajllemaa.Nats Go.Proofs.Ythkmgjkajllemaa.Val Go.Proofs.Ythkmgjkajllemaa.Arith
set_option linter.unusedVariables false
set_option linter.unusedSimpArgs false

/-- NatMul: the product. -/
theorem natMul_any (u v : Value) (m n : Nat) (w : World) (hu : IsNat w u m) (hv : IsNat w v n) (hm : (limbs m).length < 1000000) (hn : (limbs n).length < 1000000) :
    Calls Try.prog 42 #[u, v] w fun e w' => ∃ r, e = .returned r ∧ IsNew w' w.heap.size r (m * n) ∧ Below w.heap.size w w' := by
  obtain ⟨A, c, rfl, hc, hr⟩ := hu
  obtain ⟨A', c', rfl, hc', hr'⟩ := hv
  obtain ⟨k, hk⟩ := natMul_f m n hm hn
  refine (PNatMul.spec_NatMul.calls k A c _ A' c' _ _ w hr hc hr' hc' hk).mono ?_
  rintro e w' ⟨r, rfl, h1, h2⟩
  exact ⟨r, rfl, h1, h2⟩
/-- Pow10: a power of ten. -/
theorem pow10_any (n : Nat) (w : World) (hn : n < 1000000) :
    Calls Try.prog 43 #[.int .i64 n] w fun e w' => ∃ r, e = .returned r ∧ IsNew w' w.heap.size r (10 ^ n) ∧ Below w.heap.size w w' := by
  obtain ⟨k, hk⟩ := pow10_f n hn
  refine (PPow10.spec_Pow10.calls k _ _ w hk).mono ?_
  rintro e w' ⟨r, rfl, h1, h2⟩
  exact ⟨r, rfl, V_of_R h1, h2⟩
end Go.Proofs.Ythkmgjkajllemaa.NatOps

/- Whole numbers, fractions and decimal numbers of the reference, as contracts on numbers. -/
namespace Go.Proofs.Ythkmgjkajllemaa.Spec
open Go.RowKit Go.Proofs.YthkmgjkajllemaaW.PrintWords Go.Proofs.Ythkmgjkajllemaa.Num Go.Proofs.Ythkmgjkajllemaa.Str Go.Proofs.Ythkmgjkajllemaa.Nats Go.Proofs.Ythkmgjkajllemaa.Val Go.Proofs.Ythkmgjkajllemaa.Arith Go.Proofs.Ythkmgjkajllemaa.NatOps Go.Proofs.Ythkmgjkajllemaa.Mem
set_option linter.unusedVariables false
set_option linter.unusedSimpArgs false

theorem limbs_one' (n : Nat) (h : 0 < n) (h1 : n < 1000000000) : limbs n = [(n : Int)] := by
  rw [limbs_pos h, show n / 1000000000 = 0 by omega, limbs_zero, show n % 1000000000 = n by omega]
theorem limbs_len_pos (n : Nat) : 0 < (limbs n).length ↔ 0 < n := by
  have := rest_pos n 0
  rw [rest_zero] at this
  exact this

/-- wholeOf: a sign counts where the number is not 0. -/
theorem wholeMk_any (b : Bool) (u : Value) (n : Nat) (w : World) (hu : IsNat w u n) :
    Calls Try.prog 41 #[.bool b, u] w fun e w' => e = .returned (.agg #[.bool (b && decide (0 < n)), u]) ∧ Below w.heap.size w w' := by
  have hp := limbs_len_pos n
  obtain ⟨A, c, rfl, hc, hr⟩ := hu
  clear hc hr
  by_cases hn : 0 < n
  · have hl : 0 < (limbs n).length := hp.2 hn
    rw [show (b && decide (0 < n)) = b by simp [hn]]
    clear hp hn
    cases b
    · go_enter Try.func41, Try.ntmps41
      go_wp2
      exact bodyPost_ret (v := .agg #[.bool false, .slice A (limbs n).length c]) (by simp [results, Try.results41, go_sem]) rfl ⟨rfl, (Below.refl _ _).alloc (Nat.le_refl _) _⟩
    · go_enter Try.func41, Try.ntmps41
      go_wp2
      exact bodyPost_ret (v := .agg #[.bool true, .slice A (limbs n).length c]) (by simp [results, Try.results41, go_sem]) rfl ⟨rfl, (Below.refl _ _).alloc (Nat.le_refl _) _⟩
  · obtain rfl : n = 0 := by omega
    rw [show (b && decide (0 < 0)) = false by simp, show (limbs 0).length = 0 by rw [limbs_zero]; rfl]
    clear hp hn
    cases b
    · go_enter Try.func41, Try.ntmps41
      go_wp2
      exact bodyPost_ret (v := .agg #[.bool false, .slice A 0 c]) (by simp [results, Try.results41, go_sem]) rfl ⟨rfl, (Below.refl _ _).alloc (Nat.le_refl _) _⟩
    · go_enter Try.func41, Try.ntmps41
      go_wp2
      exact bodyPost_ret (v := .agg #[.bool false, .slice A 0 c]) (by simp [results, Try.results41, go_sem]) rfl ⟨rfl, (Below.refl _ _).alloc (Nat.le_refl _) _⟩

/-- one. -/
theorem one_any (w : World) :
    Calls Try.prog 44 #[] w fun e w' => ∃ r, e = .returned r ∧ IsNew w' w.heap.size r 1 ∧ Below w.heap.size w w' := by
  have HB := Aside0.mk (Below.refl w.heap.size w)
  go_enter Try.func44, Try.ntmps44
  go_wp2_with (first | ((with_reducible refine gate_dst (N := 1) rfl ?_); go_must (refine Kd.R_lit (w0 := w) (Kd.int .u32) w.heap.size 54 rfl (N := 1) rfl (xs := ([1] : List Int)) (inner := [.int .u32 1]) (ok := fun _ => True) (okp := fun _ => True) (by first | (go_simp; done) | (go_simp; rfl)) (Reps.one rfl (Reps.none _ _)) (fun _ hk => hk) trivial HB.out HB.out.size (by simp) ?_); intro v5 w2 ho hb hg hn; have HO := Aside0.mk ho; have HB2 := Aside0.mk hb; clear ho hb hg hn))
  go_ret
  exact ⟨_, rfl, by unfold IsNew; rw [limbs_one' 1 (by omega) (by omega)]; exact V_of_R HO.out, HB2.out⟩

/-- Cells of memory. -/
def Cells (W : World) : List (Nat × Nat × Value) → Prop
  | [] => True
  | (b, o, v) :: l => W.cell? ⟨b, o, none⟩ = some v ∧ Cells W l
theorem Cells.call {W W' : World} (hb : Below W.heap.size W W') : ∀ {l : List (Nat × Nat × Value)}, Cells W l → Cells W' l
  | [], _ => trivial
  | (b, o, v) :: l, h => ⟨pw_cell_below hb h.1, Cells.call hb h.2⟩
theorem old_at {w : World} {b i : Nat} {v : Value} (h : w.cell? ⟨b, i, none⟩ = some v) (o : Obj) : (w.alloc o).cell? ⟨b, i, none⟩ = some v :=
  (((Below.refl w.heap.size w).alloc (Nat.le_refl _) o).cell (p := ⟨b, i, none⟩) (World.block_lt_of_cell? w _ h)).trans h
theorem Cells.alloc {W : World} (o : Obj) : ∀ {l : List (Nat × Nat × Value)}, Cells W l → Cells (W.alloc o) l
  | [], _ => trivial
  | (b, i, v) :: l, h => ⟨old_at h.1 o, Cells.alloc o h.2⟩
theorem Cells.nil (W : World) : Cells W [] := trivial
theorem Cells.box2 {W : World} {l : List (Nat × Nat × Value)} {b : Nat} (h : Cells W l) (hb : W.heap.size = b) (u v : Value) (T : TypeId) : Cells (W.alloc (.cells #[u, v] T)) ((b, 0, u) :: (b, 1, v) :: l) := by
  subst hb
  exact ⟨by simp, by simp, h.alloc _⟩
theorem Cells.box3 {W : World} {l : List (Nat × Nat × Value)} {b : Nat} (h : Cells W l) (hb : W.heap.size = b) (u v x : Value) (T : TypeId) : Cells (W.alloc (.cells #[u, v, x] T)) ((b, 0, u) :: (b, 1, v) :: (b, 2, x) :: l) := by
  subst hb
  exact ⟨by simp, by simp, by simp, h.alloc _⟩
theorem free_box {W : World} {b : Nat} (hb : W.heap.size = b) (cs : Array Value) (T : TypeId) (o : Nat) : (W.alloc (.cells cs T)).frozen? ⟨b, o, none⟩ = false := by
  subst hb
  simp
/-- What is held in the middle of a function: cells, the result's block g (of k cells), what was there before. -/
structure St (w W : World) (l : List (Nat × Nat × Value)) (g k : Nat) : Prop where
  cells : Cells W l
  free : ∀ o, o < k → W.frozen? ⟨g, o, none⟩ = false
  lt : g < W.heap.size
  below : Below w.heap.size w W
theorem St.call {w W W' : World} {l : List (Nat × Nat × Value)} {g k : Nat} (h : St w W l g k) (hb : Below W.heap.size W W') : St w W' l g k :=
  ⟨h.cells.call hb, fun o ho => (hb.frozen (p := ⟨g, o, none⟩) h.lt).trans (h.free o ho), Nat.lt_of_lt_of_le h.lt hb.size, below_by h.below hb⟩

set_option maxHeartbeats 2000000 in
set_option maxRecDepth 100000 in
/-- Dec.Frac: z / 10^s, where places are behind the point. -/
theorem decFrac_pos (z : Int) (s b0 : Nat) (u : Value) (w : World) (hu : IsNew w b0 u z.natAbs) (hb0 : b0 ≤ w.heap.size) (hs : 0 < s) (hs1 : s < 1000) :
    Calls Try.prog 31 #[.agg #[.bool (decide (z < 0)), u, .int .i64 (-(s : Int))]] w fun e w' => ∃ u' v', e = .returned (.agg #[.bool (decide (z < 0)), u', v']) ∧ IsNew w' b0 u' z.natAbs ∧ IsNew w' b0 v' (10 ^ s) ∧ Below w.heap.size w w' := by
  have HP := Lib.hid (fun W => pow10_any s W (by omega))
  have HU := Lib.hid (fun (W : World) (hb : Below w.heap.size w W) => hu.below hb)
  have HB0 := Lib.hid hb0
  obtain ⟨A, c, rfl⟩ := hu.slice
  clear hu hb0
  generalize decide (z < 0) = x at *
  generalize z.natAbs = m at *
  have g0 : decide (0 ≤ -(s : Int)) = false := decide_eq_false (by omega)
  have hsp : 1 ≤ (s : Int) := by omega
  have hw : IntKind.i64.wrap (s : Int) = (s : Int) := IntWalk.i64_in _ (by omega)
  have hnn : -(-(s : Int)) = (s : Int) := by omega
  have HS : Hid (St w ((w.alloc (.cells #[.bool x, .slice A (limbs m).length c, .int .i64 (-(s : Int))] 35)).alloc (.cells #[.bool false, .slice none 0 0, .slice none 0 0] 40))
      [(w.heap.size + 1, 0, .bool false), (w.heap.size + 1, 1, .slice none 0 0), (w.heap.size + 1, 2, .slice none 0 0), (w.heap.size, 0, .bool x), (w.heap.size, 1, .slice A (limbs m).length c), (w.heap.size, 2, .int .i64 (-(s : Int)))] (w.heap.size + 1) 3) :=
    ⟨Cells.box3 (Cells.box3 (Cells.nil _) rfl _ _ _ _) (by simp) _ _ _ _, fun o _ => free_box (by simp) _ _ _, by simp, ((Below.refl _ _).alloc (Nat.le_refl _) _).alloc (by simp) _⟩
  have hne : w.heap.size + 1 ≠ w.heap.size := by omega
  clear hs
  go_enter Try.func31, Try.ntmps31
  go_wp2
  obtain ⟨W, hW⟩ : ∃ W, (w.alloc (.cells #[.bool x, .slice A (limbs m).length c, .int .i64 (-(s : Int))] 35)).alloc (.cells #[.bool false, .slice none 0 0, .slice none 0 0] 40) = W := ⟨_, rfl⟩
  rw [hW] at HS ⊢
  clear hW
  have HS1 := Lib.hid (HS.out.call (below_drew (Below.refl _ _)))
  clear HS
  go_region_held3 (fun W' => W'.cell? ⟨w.heap.size, 0, none⟩ = some (.bool x) ∧ W'.cell? ⟨w.heap.size, 1, none⟩ = some (.slice A (limbs m).length c) ∧ W'.cell? ⟨w.heap.size, 2, none⟩ = some (.int .i64 (-(s : Int))))
    (first | exact (by have h := HS2.out.cells.2.2.2; exact ⟨h.1, h.2.1, h.2.2.1⟩) | exact (by have h := HS1.out.cells.2.2.2; exact ⟨h.1, h.2.1, h.2.2.1⟩) | go_keep)
    (first | (go_at_call 43; (try rw [hnn]); (with_reducible refine (HP.out _).mono ?_); rintro e w2 ⟨r, rfl, hn, hb⟩; have HS2 := Lib.hid (HS1.out.call hb); have HG2 := Lib.hid hn; obtain ⟨A2, c2, rfl⟩ := hn.slice; obtain ⟨d0, d1, d2, b0', b1', b2', -⟩ := HS2.out.cells; have f0 := HS2.out.free 0 (by omega); have f1 := HS2.out.free 1 (by omega); have f2 := HS2.out.free 2 (by omega); have hz := HS2.out.lt; clear hn hb))
  all_goals (go_wp2; have HF : Hid (Below w.heap.size w _) := ((HS2.out.below.setCell (p := ⟨w.heap.size + 1, 0, none⟩) (Nat.le_succ _) (.bool x)).setCell (p := ⟨w.heap.size + 1, 1, none⟩) (Nat.le_succ _) (.slice A (limbs m).length c)).setCell (p := ⟨w.heap.size + 1, 2, none⟩) (Nat.le_succ _) (.slice A2 (limbs (10 ^ s)).length c2); exact bodyPost_ret (v := .agg #[.bool x, .slice A (limbs m).length c, .slice A2 (limbs (10 ^ s)).length c2]) (by simp [results, Try.results31, go_sem, d0, d1, d2, f0, f1, f2, hz]) rfl ⟨_, _, rfl, HU.out _ HF.out, (((HG2.out.set (by have := HS1.out.lt; exact this) _).set (by have := HS1.out.lt; exact this) _).set (by have := HS1.out.lt; exact this) _).lower (Nat.le_trans HB0.out HS1.out.below.size), HF.out⟩)

set_option maxHeartbeats 2000000 in
set_option maxRecDepth 100000 in
/-- Dec.Frac of a whole number. -/
theorem decFrac_nat (z : Int) (k b0 : Nat) (u : Value) (w : World) (hu : IsNew w b0 u z.natAbs) (hb0 : b0 ≤ w.heap.size) (hl : (limbs z.natAbs).length < 1000) (hk : k < 1000) (h10 : (limbs (10 ^ k)).length < 1000) :
    Calls Try.prog 31 #[.agg #[.bool (decide (z < 0)), u, .int .i64 k]] w fun e w' => ∃ u' v', e = .returned (.agg #[.bool (decide (z < 0)), u', v']) ∧ IsNew w' b0 u' (z.natAbs * 10 ^ k) ∧ IsNew w' b0 v' 1 ∧ Below w.heap.size w w' := by
  have HP := Lib.hid (fun W => pow10_any k W (by omega))
  have HM := Lib.hid (fun v W h1 h2 => natMul_any u v z.natAbs (10 ^ k) W h1 h2 (by omega) (by omega))
  have HW := Lib.hid (fun r W hr => wholeMk_any (decide (z < 0)) r (z.natAbs * 10 ^ k) W hr)
  have HO := Lib.hid (fun W => one_any W)
  have g0 : decide (0 ≤ (k : Int)) = true := decide_eq_true (by omega)
  rw [show (decide (z < 0) && decide (0 < z.natAbs * 10 ^ k)) = decide (z < 0) by
    by_cases h : z < 0
    · rw [decide_eq_true h, decide_eq_true (Nat.mul_pos (show 0 < z.natAbs by omega) (Nat.pow_pos (by decide)))]; rfl
    · rw [decide_eq_false h]; rfl] at HW
  have HU := Lib.hid (fun (W : World) (hb : Below w.heap.size w W) => (hu.below hb).isNat)
  have HB0 := Lib.hid hb0
  obtain ⟨A, c, rfl⟩ := hu.slice
  clear hu hb0 h10 hl hk
  generalize decide (z < 0) = x at *
  generalize z.natAbs = m at *
  generalize m * 10 ^ k = mk at *
  generalize 10 ^ k = ten at *
  have HS : Hid (St w ((w.alloc (.cells #[.bool x, .slice A (limbs m).length c, .int .i64 k] 35)).alloc (.cells #[.bool false, .slice none 0 0, .slice none 0 0] 40))
      [(w.heap.size + 1, 0, .bool false), (w.heap.size + 1, 1, .slice none 0 0), (w.heap.size + 1, 2, .slice none 0 0), (w.heap.size, 0, .bool x), (w.heap.size, 1, .slice A (limbs m).length c), (w.heap.size, 2, .int .i64 k)] (w.heap.size + 1) 3) :=
    ⟨Cells.box3 (Cells.box3 (Cells.nil _) rfl _ _ _ _) (by simp) _ _ _ _, fun o _ => free_box (by simp) _ _ _, by simp, ((Below.refl _ _).alloc (Nat.le_refl _) _).alloc (by simp) _⟩
  have hne : w.heap.size + 1 ≠ w.heap.size := by omega
  go_enter Try.func31, Try.ntmps31
  go_wp2
  obtain ⟨W, hW⟩ : ∃ W, (w.alloc (.cells #[.bool x, .slice A (limbs m).length c, .int .i64 k] 35)).alloc (.cells #[.bool false, .slice none 0 0, .slice none 0 0] 40) = W := ⟨_, rfl⟩
  rw [hW] at HS ⊢
  clear hW
  have HS1 := Lib.hid (HS.out.call (below_drew (Below.refl _ _)))
  clear HS
  go_region_held3 (fun W' => W'.cell? ⟨w.heap.size, 0, none⟩ = some (.bool x) ∧ W'.cell? ⟨w.heap.size, 1, none⟩ = some (.slice A (limbs m).length c) ∧ W'.cell? ⟨w.heap.size, 2, none⟩ = some (.int .i64 k))
    (first | exact (by have h := HS5.out.cells.2.2.2; exact ⟨h.1, h.2.1, h.2.2.1⟩) | exact (by have h := HS4.out.cells.2.2.2; exact ⟨h.1, h.2.1, h.2.2.1⟩) | exact (by have h := HS3.out.cells.2.2.2; exact ⟨h.1, h.2.1, h.2.2.1⟩) | exact (by have h := HS2.out.cells.2.2.2; exact ⟨h.1, h.2.1, h.2.2.1⟩) | exact (by have h := HS1.out.cells.2.2.2; exact ⟨h.1, h.2.1, h.2.2.1⟩) | go_keep)
    (first | (go_at_call 43; (refine (HP.out _).mono ?_); rintro e w2 ⟨r, rfl, hn, hb⟩; have HS2 := Lib.hid (HS1.out.call hb); have HG2 := Lib.hid hn.isNat; obtain ⟨A2, c2, rfl⟩ := hn.slice; clear hn hb) | (go_at_call 42; (refine (HM.out _ _ (HU.out _ HS2.out.below) HG2.out).mono ?_); rintro e w3 ⟨r, rfl, hn, hb⟩; have HS3 := Lib.hid (HS2.out.call hb); have HG3 := Lib.hid hn; obtain ⟨A3, c3, rfl⟩ := hn.slice; clear hn hb) | (go_at_call 41; (refine (HW.out _ _ HG3.out.isNat).mono ?_); rintro e w4 ⟨rfl, hb⟩; have HS4 := Lib.hid (HS3.out.call hb); have HG4 := Lib.hid (HG3.out.below hb); clear hb) | (go_at_call 44; (refine (HO.out _).mono ?_); rintro e w5 ⟨r, rfl, hn, hb⟩; have HS5 := Lib.hid (HS4.out.call hb); have HG5 := Lib.hid (HG4.out.below hb); have HG5' := Lib.hid hn; obtain ⟨A5, c5, rfl⟩ := hn.slice; obtain ⟨d0, d1, d2, b0', b1', b2', -⟩ := HS5.out.cells; have f0 := HS5.out.free 0 (by omega); have f1 := HS5.out.free 1 (by omega); have f2 := HS5.out.free 2 (by omega); have hz := HS5.out.lt; clear hn hb))
  all_goals (go_wp2; exact bodyPost_ret (v := .agg #[.bool x, .slice A3 (limbs mk).length c3, .slice A5 (limbs 1).length c5]) (by simp [results, Try.results31, go_sem, d0, d1, d2, f0, f1, f2, hz]) rfl ⟨_, _, rfl, (((HG5.out.set (by exact HS2.out.lt) _).set (by exact HS2.out.lt) _).set (by exact HS2.out.lt) _).lower (Nat.le_trans HB0.out HS2.out.below.size), (((HG5'.out.set (by exact HS4.out.lt) _).set (by exact HS4.out.lt) _).set (by exact HS4.out.lt) _).lower (Nat.le_trans HB0.out HS4.out.below.size), ((HS5.out.below.setCell (p := ⟨w.heap.size + 1, 0, none⟩) (Nat.le_succ _) _).setCell (p := ⟨w.heap.size + 1, 1, none⟩) (Nat.le_succ _) _).setCell (p := ⟨w.heap.size + 1, 2, none⟩) (Nat.le_succ _) _⟩)

end Go.Proofs.Ythkmgjkajllemaa.Spec

/- The thin package's decimals out of their texts, and Shift. -/
namespace Go.Proofs.Ythkmgjkajllemaa.Shift
open Go.RowKit Go.Proofs.YthkmgjkajllemaaW.PrintWords Go.Proofs.YthkmgjkajllemaaW.PrintLast Go.Proofs.YthkmgjkajllemaaW.PrintMore Go.Proofs.Ythkmgjkajllemaa.Num Go.Proofs.Ythkmgjkajllemaa.Big Go.Proofs.Ythkmgjkajllemaa.Wsum Go.Proofs.Ythkmgjkajllemaa.DecMake Go.Proofs.Ythkmgjkajllemaa.Mem Go.Proofs.Ythkmgjkajllemaa.BigSet Go.Proofs.Ythkmgjkajllemaa.BigIn Go.Proofs.Ythkmgjkajllemaa.NatOf Go.Proofs.Ythkmgjkajllemaa.Fit Go.Proofs.Ythkmgjkajllemaa.Made Go.Proofs.Ythkmgjkajllemaa.Spec
set_option linter.unusedVariables false
set_option linter.unusedSimpArgs false

theorem sign_nil (g c : Nat) (A : Option Addr) (w : World) (h : w.cell? ⟨g, 1, none⟩ = some (.slice A 0 c)) :
    Calls Try.prog 35 #[.pointer (some ⟨g, 0, none⟩)] w fun e w' => e = .returned (.int .i64 0) ∧ w = w' := by
  go_enter Try.func35, Try.ntmps35
  go_wp2
  go_ret
  exact ⟨rfl, rfl⟩
theorem signZ (b g : Nat) (neg : Bool) (N : Nat) (w : World) (h : IsZ w b g neg N) :
    Calls Try.prog 35 #[.pointer (some ⟨g, 0, none⟩)] w fun e w' => e = .returned (.int .i64 (if N = 0 then 0 else if neg then -1 else 1)) ∧ w = w' := by
  obtain ⟨-, -, h0, vs, A, c, h1, -, -, -, hp, -⟩ := h
  by_cases hN : N = 0
  · rw [if_pos hN]
    have hv : vs.length = 0 := by
      rcases Nat.eq_zero_or_pos vs.length with h | h
      · exact h
      · have := hp.1 h; omega
    rw [hv] at h1
    exact sign_nil g c A w h1
  · rw [if_neg hN]
    exact sign_any g neg vs A c w h0 h1 (hp.2 (by omega))
theorem zeroInt_any (w : World) :
    Calls Try.prog 36 #[] w fun e w' => ∃ g, e = .returned (.pointer (some ⟨g, 0, none⟩)) ∧ IsZ w' w.heap.size g false 0 ∧ Below w.heap.size w w' := by
  have HN := Lib.hid (fun W => newInt_any 0 W (by omega) (by omega))
  go_enter Try.func36, Try.ntmps36
  go_wp2_with (first | (go_at_call 27; go_must (refine (HN.out _).mono ?_); rintro e w1 ⟨g, rfl, hi, hb⟩; have HI := Lib.hid hi; have HB := Lib.hid hb; clear hi hb))
  go_ret
  obtain ⟨h1, h2, h3, h4⟩ := HI.out
  rcases h4 with ⟨-, h5⟩ | ⟨h5, -⟩
  · exact ⟨g, rfl, ⟨h1, h2, h3, [], none, 0, h5, Kd.R_nil _ _ _ _ _, by intro x hx; simp at hx, rfl, by simp, by simp⟩, HB.out⟩
  · simp at h5

theorem made_any (neg : Bool) (N : Nat) (e : Int) (w : World) (hn : neg = true → 0 < N) (hN : N < 10 ^ 60) (h1 : -400 ≤ e) (h2 : e ≤ 400) :
    Calls Try.prog 22 #[.agg #[.string (textZ neg N), .int .i64 e]] w fun r w' => ∃ g, r = .returned (.tuple #[.agg #[.pointer (some ⟨g, 0, none⟩), .int .i32 e], .bool true]) ∧ IsZ w' w.heap.size g neg N ∧ Below w.heap.size w w' := by
  have X32 := Lib.hid (fun W => wholeZ neg N W hn hN)
  have X14 := Lib.hid (fun W => places_in e W h1 h2)
  have X33 := Lib.hid (fun g W => zzMake_any g e W)
  have hwr : IntKind.i32.wrap e = e := IntWalk.i32_in _ (by omega)
  generalize textZ neg N = txt at X32 ⊢
  have HS : Hid (St w ((w.alloc (.cells #[.string txt, .int .i64 e] 24)).alloc (.cells #[.pointer none, .int .i32 0] 50))
      [(w.heap.size + 1, 0, .pointer none), (w.heap.size + 1, 1, .int .i32 0), (w.heap.size, 0, .string txt), (w.heap.size, 1, .int .i64 e)] (w.heap.size + 1) 2) :=
    ⟨Cells.box2 (Cells.box2 (Cells.nil _) rfl _ _ _) (by simp) _ _ _, fun o _ => free_box (by simp) _ _ _, by simp, ((Below.refl _ _).alloc (Nat.le_refl _) _).alloc (by simp) _⟩
  have hne : w.heap.size + 1 ≠ w.heap.size := by omega
  clear hn hN
  go_enter Try.func22, Try.ntmps22
  go_wp2_with fail
  refine (X32.out _).mono ?_
  rintro r w2 ⟨g, rfl, hz, hb⟩
  have HS2 := Lib.hid (HS.out.call hb)
  have HZ2 := Lib.hid hz
  obtain ⟨-, -, a0, a1, -⟩ := HS2.out.cells
  clear hb hz
  go_wp2_with fail
  refine (X14.out _).mono ?_
  rintro r w3 ⟨rfl, hb⟩
  have HS3 := Lib.hid (HS2.out.call hb)
  have HZ3 := Lib.hid (HZ2.out.below hb)
  obtain ⟨-, -, a0', a1', -⟩ := HS3.out.cells
  clear hb
  go_wp2_with fail
  refine (X33.out _ _).mono ?_
  rintro r w4 ⟨rfl, hb⟩
  have HS4 := Lib.hid (HS3.out.call hb)
  have HZ4 := Lib.hid (HZ3.out.below hb)
  obtain ⟨d0, d1, a0'', a1'', -⟩ := HS4.out.cells
  have f0 := HS4.out.free 0 (by omega)
  have f1 := HS4.out.free 1 (by omega)
  have hz := HS4.out.lt
  clear hb
  go_wp2_with fail
  have HF : Hid (Below w.heap.size w _) := (HS4.out.below.setCell (p := ⟨w.heap.size + 1, 0, none⟩) (Nat.le_succ _) (.pointer (some ⟨g, 0, none⟩))).setCell (p := ⟨w.heap.size + 1, 1, none⟩) (Nat.le_succ _) (.int .i32 e)
  exact bodyPost_ret (v := .tuple #[.agg #[.pointer (some ⟨g, 0, none⟩), .int .i32 e], .bool true]) (by simp [results, Try.results22, go_sem, d0, d1, f0, f1, hz]) rfl ⟨_, rfl, ((HZ4.out.set (p := ⟨w.heap.size + 1, 0, none⟩) (by simp) _).set (p := ⟨w.heap.size + 1, 1, none⟩) (by simp) _).lower (by simp; omega), HF.out⟩

set_option maxHeartbeats 1000000 in
theorem shift_any (b g : Nat) (neg : Bool) (N : Nat) (e n : Int) (w : World) (hg : IsZ w b g neg N) (hb : b ≤ w.heap.size) (h1 : -400 ≤ e) (h2 : e ≤ 400) (h3 : -400 ≤ n) (h4 : n ≤ 400) :
    Calls Try.prog 23 #[.agg #[.pointer (some ⟨g, 0, none⟩), .int .i32 e], .int .i32 n] w fun r w' => ∃ g' neg', r = .returned (.agg #[.pointer (some ⟨g', 0, none⟩), .int .i32 (e + n)]) ∧ IsZ w' b g' neg' N ∧ (0 < N → neg' = neg) ∧ Below w.heap.size w w' := by
  have X34 := Lib.hid (fun W => getValue_any g e W)
  have X35 := Lib.hid (fun W hW => signZ b g neg N W hW)
  have X36 := Lib.hid (fun W => zeroInt_any W)
  have hw1 : IntKind.i64.wrap e = e := IntWalk.i64_in _ (by omega)
  have hw2 : IntKind.i64.wrap n = n := IntWalk.i64_in _ (by omega)
  have hw3 : IntKind.i64.wrap (e + n) = e + n := IntWalk.i64_in _ (by omega)
  have hw4 : IntKind.i32.wrap (e + n) = e + n := IntWalk.i32_in _ (by omega)
  have hd1 : decide (2147483647 < e + n) = false := decide_eq_false (by omega)
  have hd2 : decide (e + n < -2147483648) = false := decide_eq_false (by omega)
  have HS : Hid (St w ((w.alloc (.cells #[.pointer (some ⟨g, 0, none⟩), .int .i32 e] 50)).alloc (.cells #[.pointer none, .int .i32 0] 50))
      [(w.heap.size + 1, 0, .pointer none), (w.heap.size + 1, 1, .int .i32 0), (w.heap.size, 0, .pointer (some ⟨g, 0, none⟩)), (w.heap.size, 1, .int .i32 e)] (w.heap.size + 1) 2) :=
    ⟨Cells.box2 (Cells.box2 (Cells.nil _) rfl _ _ _) (by simp) _ _ _, fun o _ => free_box (by simp) _ _ _, by simp, ((Below.refl _ _).alloc (Nat.le_refl _) _).alloc (by simp) _⟩
  have HZ : Hid (IsZ ((w.alloc (.cells #[.pointer (some ⟨g, 0, none⟩), .int .i32 e] 50)).alloc (.cells #[.pointer none, .int .i32 0] 50)) b g neg N) :=
    (hg.below ((Below.refl _ _).alloc (Nat.le_refl _) _)).below ((Below.refl _ _).alloc (Nat.le_refl _) _)
  have hne : w.heap.size + 1 ≠ w.heap.size := by omega
  have HG0 := Lib.hid hg
  have hb0 : Hid (b ≤ w.heap.size) := Lib.hid hb
  clear h1 h2 h3 h4 hg hb
  go_enter Try.func23, Try.ntmps23
  go_wp2_with fail
  refine (X34.out _).mono ?_
  rintro r w2 ⟨rfl, hb⟩
  have HS2 := Lib.hid (HS.out.call hb)
  have HZ2 := Lib.hid (HZ.out.below hb)
  clear hb
  go_wp2_with fail
  by_cases hN : N = 0
  · have X := X35.out _ HZ2.out
    rw [if_pos hN] at X
    refine X.mono ?_
    rintro r w3 ⟨rfl, rfl⟩
    clear X
    go_wp2_with fail
    refine (X36.out _).mono ?_
    rintro r w3 ⟨g', rfl, hz, hb⟩
    have HS3 := Lib.hid (HS2.out.call hb)
    have hle := HS2.out.below.size
    obtain ⟨d0, d1, -⟩ := HS3.out.cells
    have f0 := HS3.out.free 0 (by omega)
    have f1 := HS3.out.free 1 (by omega)
    have hlt := HS3.out.lt
    have HZ3 := Lib.hid hz
    have hlt2 := HS2.out.lt
    have HLE : Hid (w.heap.size ≤ w2.heap.size ∧ w.heap.size + 1 < w2.heap.size) := ⟨hle, hlt2⟩
    clear hb hz hle hlt2
    go_wp2_with fail
    have HF : Hid (Below w.heap.size w _) := (HS3.out.below.setCell (p := ⟨w.heap.size + 1, 0, none⟩) (Nat.le_succ _) (.pointer (some ⟨g', 0, none⟩))).setCell (p := ⟨w.heap.size + 1, 1, none⟩) (Nat.le_succ _) (.int .i32 (e + n))
    exact bodyPost_ret (v := .agg #[.pointer (some ⟨g', 0, none⟩), .int .i32 (e + n)]) (by simp [results, Try.results23, go_sem, d0, d1, f0, f1, hlt]) rfl ⟨_, _, rfl, by rw [hN]; exact ((HZ3.out.set (p := ⟨w.heap.size + 1, 0, none⟩) HLE.out.2 _).set (p := ⟨w.heap.size + 1, 1, none⟩) HLE.out.2 _).lower (Nat.le_trans hb0.out HLE.out.1), fun h => absurd h (by omega), HF.out⟩
  · have X := X35.out _ HZ2.out
    rw [if_neg hN] at X
    obtain ⟨sg, hsg⟩ : ∃ sg : Int, (if neg = true then -1 else 1) = sg := ⟨_, rfl⟩
    rw [hsg] at X
    have hsg0 : (sg == 0) = false := by
      rw [← hsg]
      cases neg <;> rfl
    refine X.mono ?_
    rintro r w3 ⟨rfl, rfl⟩
    clear X hsg
    obtain ⟨d0, d1, -⟩ := HS2.out.cells
    have f0 := HS2.out.free 0 (by omega)
    have f1 := HS2.out.free 1 (by omega)
    have hlt := HS2.out.lt
    go_wp2_with fail
    have HF : Hid (Below w.heap.size w _) := (HS2.out.below.setCell (p := ⟨w.heap.size + 1, 0, none⟩) (Nat.le_succ _) (.pointer (some ⟨g, 0, none⟩))).setCell (p := ⟨w.heap.size + 1, 1, none⟩) (Nat.le_succ _) (.int .i32 (e + n))
    exact bodyPost_ret (v := .agg #[.pointer (some ⟨g, 0, none⟩), .int .i32 (e + n)]) (by simp [results, Try.results23, go_sem, d0, d1, f0, f1, hlt]) rfl ⟨_, _, rfl, HG0.out.below HF.out, fun _ => rfl, HF.out⟩
end Go.Proofs.Ythkmgjkajllemaa.Shift

/- impl.DecShift: the text and the exponent of a shifted decimal. -/
namespace Go.Proofs.Ythkmgjkajllemaa.Shift
open Go.RowKit Go.Proofs.YthkmgjkajllemaaW.PrintWords Go.Proofs.YthkmgjkajllemaaW.PrintLast Go.Proofs.YthkmgjkajllemaaW.PrintMore Go.Proofs.Ythkmgjkajllemaa.Num Go.Proofs.Ythkmgjkajllemaa.Big Go.Proofs.Ythkmgjkajllemaa.Wsum Go.Proofs.Ythkmgjkajllemaa.DecMake Go.Proofs.Ythkmgjkajllemaa.Mem Go.Proofs.Ythkmgjkajllemaa.BigSet Go.Proofs.Ythkmgjkajllemaa.BigIn Go.Proofs.Ythkmgjkajllemaa.NatOf Go.Proofs.Ythkmgjkajllemaa.Fit Go.Proofs.Ythkmgjkajllemaa.Made Go.Proofs.Ythkmgjkajllemaa.Spec
set_option linter.unusedVariables false
set_option linter.unusedSimpArgs false

theorem Cells.box1 {W : World} {l : List (Nat × Nat × Value)} {b : Nat} (h : Cells W l) (hb : W.heap.size = b) (u : Value) (T : TypeId) : Cells (W.alloc (.cells #[u] T)) ((b, 0, u) :: l) := by
  subst hb
  exact ⟨by simp, h.alloc _⟩
theorem idle21 (p q : Addr) (w : World) :
    CallsD Try.prog 21 #[.pointer (some p), .pointer (some q)] .returning w fun e u' w' => e = .returned (.tuple #[]) ∧ u' = .returning ∧ w' = w := by
  refine callsD_of_wpS Try.func21 rfl fun c₀ cs hu => ?_
  apply wpS_seq
  apply wpS_region
  simp [wpOpsS, go_sem, recoverD, hu, Try.ntmps21, Exit.thenS]
  refine wpS_cond (t := false) (by simp [Act.eval, Array.replicate]) ?_
  simp only [Bool.false_eq_true, if_false]
  refine wpS_of_wp (wp_skip ?_)
  cases c₀
  simp_all [bodyPostS, results, Try.results21]

theorem textZ_sign (N : Nat) (a b : Bool) (h : 0 < N → a = b) : textZ a N = textZ b N := by
  unfold textZ
  split
  · rfl
  · rw [h (by omega)]

set_option maxHeartbeats 1000000 in
theorem decShift_ok (neg : Bool) (N : Nat) (e n : Int) (w : World) (hn : neg = true → 0 < N) (hN : N < 10 ^ 60) (h1 : -400 ≤ e) (h2 : e ≤ 400) (h3 : -400 ≤ n) (h4 : n ≤ 400) :
    Calls Try.prog 13 #[.agg #[.string (textZ neg N), .int .i64 e], .int .i64 n] w fun r w' => r = .returned (.tuple #[.agg #[.string (textZ neg N), .int .i64 (e + n)], .int .i64 0]) ∧ Below w.heap.size w w' := by
  have hmf : ∀ (fn : Fn) (first cap : Array Value) (w : World), (Instr.makeFunc fn first cap).run Try.prog w = .ok (.func fn first cap) w := fun _ _ _ _ => rfl
  have hdl := decs_length 60 N hN
  have X22 := Lib.hid (fun W => made_any neg N e W hn hN h1 h2)
  have X14 := Lib.hid (fun W => places_in n W h3 h4)
  have X23 := Lib.hid (fun b g W hg hb => shift_any b g neg N e n W hg hb h1 h2 h3 h4)
  have X15 : Hid (∀ b g neg' W, IsZ W b g neg' N → (0 < N → neg' = neg) → Calls Try.prog 15 #[.agg #[.pointer (some ⟨g, 0, none⟩), .int .i32 (e + n)]] W fun r w' => r = .returned (.agg #[.string (textZ neg N), .int .i64 (e + n)]) ∧ Below W.heap.size W w') := by
    intro b g neg' W hz hs
    obtain ⟨vs, hi, hin, hv, -, hl⟩ := hz.int
    rw [← textZ_sign N neg' neg hs]
    exact dec_any g (e + n) neg' vs N W hi hin (by omega) hv (by omega) (by omega) (by omega)
  have hwr : IntKind.i32.wrap n = n := IntWalk.i32_in _ (by omega)
  generalize textZ neg N = txt at X22 X15 ⊢
  have HS : Hid (St w (((w.alloc (.cells #[.string txt, .int .i64 e] 24)).alloc (.cells #[.string ⟨#[]⟩, .int .i64 0] 24)).alloc (.cells #[.int .i64 0] 3))
      [(w.heap.size + 1, 0, .string ⟨#[]⟩), (w.heap.size + 1, 1, .int .i64 0), (w.heap.size, 0, .string txt), (w.heap.size, 1, .int .i64 e)] (w.heap.size + 1) 2) :=
    St.call ⟨Cells.box2 (Cells.box2 (Cells.nil _) rfl _ _ _) (by simp) _ _ _, fun o _ => free_box (by simp) _ _ _, by simp, ((Below.refl _ _).alloc (Nat.le_refl _) _).alloc (by simp) _⟩ ((Below.refl _ _).alloc (Nat.le_refl _) _)
  have HT : Hid (St w (((w.alloc (.cells #[.string txt, .int .i64 e] 24)).alloc (.cells #[.string ⟨#[]⟩, .int .i64 0] 24)).alloc (.cells #[.int .i64 0] 3))
      [(w.heap.size + 1 + 1, 0, .int .i64 0)] (w.heap.size + 1 + 1) 1) :=
    ⟨Cells.box1 (Cells.nil _) (by simp) _ _, fun o _ => free_box (by simp) _ _ _, by simp, (((Below.refl _ _).alloc (Nat.le_refl _) _).alloc (by simp) _).alloc (by simp; omega) _⟩
  have hne : w.heap.size + 1 ≠ w.heap.size := by omega
  have hne2 : w.heap.size + 1 + 1 ≠ w.heap.size := by omega
  have hne3 : w.heap.size + 1 ≠ w.heap.size + 1 + 1 := by omega
  clear hn hN h1 h2 h3 h4
  go_enter_defers Try.func13, Try.ntmps13
  go_wp2_with fail
  refine (X22.out _).mono ?_
  rintro r w2 ⟨g, rfl, hz, hb⟩
  have HS2 := Lib.hid (HS.out.call hb)
  have HT2 := Lib.hid (HT.out.call hb)
  have HZ2 : Hid (IsZ w2 w.heap.size g neg N) := hz.lower (by simp; omega)
  clear hb hz
  go_wp2_with fail
  refine (X14.out _).mono ?_
  rintro r w3 ⟨rfl, hb⟩
  obtain ⟨hC, hb1⟩ := made2 hb
  have HS3 := Lib.hid (HS2.out.call hb1)
  have HT3 := Lib.hid (HT2.out.call hb1)
  have HZ3 := Lib.hid (HZ2.out.below hb1)
  have HSZ : Hid (w.heap.size ≤ w3.heap.size) := by
    have := HT3.out.lt
    exact Lib.hid (by omega)
  obtain ⟨x0, x1, -, -, -⟩ := hC
  clear hb hb1
  go_wp2_with fail
  refine (X23.out _ _ _ HZ3.out HSZ.out).mono ?_
  rintro r w4 ⟨g', neg', rfl, hz, hs, hb⟩
  have HS4 := Lib.hid (HS3.out.call hb)
  have HT4 := Lib.hid (HT3.out.call hb)
  have HZ4 := Lib.hid hz
  have HN4 : Hid (0 < N → neg' = neg) := Lib.hid hs
  clear hb hz hs x0 x1
  go_wp2_with fail
  refine (X15.out _ _ _ _ HZ4.out HN4.out).mono ?_
  rintro r w5 ⟨rfl, hb⟩
  have HS5 := Lib.hid (HS4.out.call hb)
  have HT5 := Lib.hid (HT4.out.call hb)
  obtain ⟨d0, d1, -⟩ := HS5.out.cells
  obtain ⟨d2, -⟩ := HT5.out.cells
  have f0 := HS5.out.free 0 (by omega)
  have f1 := HS5.out.free 1 (by omega)
  have f2 := HT5.out.free 0 (by omega)
  have hlt := HS5.out.lt
  have hlt1 := HT5.out.lt
  clear hb
  go_wp2_with fail
  refine leaves_cons (f := 21) (args := #[.pointer (some ⟨w.heap.size + 1, 0, none⟩), .pointer (some ⟨w.heap.size + 1 + 1, 0, none⟩)]) (by simp) (by simp [go_sem]) ?_
  refine (idle21 _ _ _).mono ?_
  rintro r u' w'' ⟨rfl, rfl, rfl⟩
  have HE := ((HS5.out.below.setCell (p := ⟨w.heap.size + 1, 0, none⟩) (Nat.le_succ _) (.string txt)).setCell (p := ⟨w.heap.size + 1, 1, none⟩) (Nat.le_succ _) (.int .i64 (e + n))).setCell (p := ⟨w.heap.size + 1 + 1, 0, none⟩) (by show w.heap.size ≤ w.heap.size + 1 + 1; omega) (.int .i64 0)
  simp [Leaves, settle, results, Try.results13, go_sem, d0, d1, d2, f0, f1, f2]
  exact HE
end Go.Proofs.Ythkmgjkajllemaa.Shift

/- Numbers out of texts: ParseWhole and what stands on it. -/
namespace Go.Proofs.Ythkmgjkajllemaa.Spec
open Go.RowKit Go.Proofs.YthkmgjkajllemaaW.PrintWords Go.Proofs.YthkmgjkajllemaaW.PrintLast Go.Proofs.YthkmgjkajllemaaW.PrintMore Go.Proofs.Ythkmgjkajllemaa.Num Go.Proofs.Ythkmgjkajllemaa.Str Go.Proofs.Ythkmgjkajllemaa.Nats Go.Proofs.Ythkmgjkajllemaa.Val Go.Proofs.Ythkmgjkajllemaa.NatOf Go.Proofs.Ythkmgjkajllemaa.Mem Go.Proofs.Ythkmgjkajllemaa.NatOps
set_option linter.unusedVariables false
set_option linter.unusedSimpArgs false

set_option maxHeartbeats 2000000 in
set_option maxRecDepth 100000 in
theorem parseWhole_nat (s : ByteArray) (N : Nat) (w : World) (hs : 0 < s.size) (h0 : 48 ≤ bt s 0) (h1 : bt s 0 ≤ 57)
    (h53 : ∀ W, Calls Try.prog 53 #[.string s] W fun e w' => ∃ v, e = .returned (.tuple #[v, .bool true]) ∧ IsNew w' W.heap.size v N ∧ Below W.heap.size W w') :
    Calls Try.prog 49 #[.string s] w fun e w' => ∃ v, e = .returned (.tuple #[.agg #[.bool (false && decide (0 < N)), v], .bool true]) ∧ IsNew w' w.heap.size v N ∧ Below w.heap.size w w' := by
  have X53 := Lib.hid h53
  have X41 := Lib.hid (fun u W h => wholeMk_any false u N W h)
  have hE := toList_ne s hs
  have hb2 := bt_at s 0 (by simpa using hs)
  have hE2 : s.toList.isEmpty = false := by cases h : s.toList with
    | nil => rw [h] at hE; simp at hE
    | cons a l => rfl
  have e1 : (((s[0]'hs).toNat : Int) == 45) = false := by
    have h : ((s[0]'hs).toNat : Int) = bt s 0 := hb2
    rw [h]; exact beq_false_of_ne (by omega)
  have e2 : (((s[0]'hs).toNat : Int) == 43) = false := by
    have h : ((s[0]'hs).toNat : Int) = bt s 0 := hb2
    rw [h]; exact beq_false_of_ne (by omega)
  clear h0 h1
  generalize (false && decide (0 < N)) = sg at *
  clear h53 hb2
  have HC0 := Lib.hid ((Cells.box2 (Cells.nil w) rfl (.bool false) (.slice none 0 0) 32))
  go_enter Try.func49, Try.ntmps49
  go_wp2_with fail
  refine (X53.out _).mono ?_
  rintro e w2 ⟨v, rfl, hu, hb⟩
  have HC := Lib.hid (HC0.out.call hb)
  have HB := Lib.hid (below_one _ hb)
  have HU := Lib.hid hu
  have hsz : w.heap.size < w2.heap.size := by have := hb.size; simp at this; omega
  have hfz : w2.frozen? ⟨w.heap.size, 0, none⟩ = false := (hb.frozen (p := ⟨w.heap.size, 0, none⟩) (by simp)).trans (by simp)
  have hfz1 : w2.frozen? ⟨w.heap.size, 1, none⟩ = false := (hb.frozen (p := ⟨w.heap.size, 1, none⟩) (by simp)).trans (by simp)
  obtain ⟨A, c, rfl⟩ := hu.slice
  clear hu hb
  go_wp2_with fail
  refine (X41.out _ _ HU.out.isNat).mono ?_
  rintro e w3 ⟨rfl, hb⟩
  obtain ⟨c0, c1, -⟩ := HC.out.call hb
  have hf0 := (hb.frozen (p := ⟨w.heap.size, 0, none⟩) hsz).trans hfz
  have hf1 := (hb.frozen (p := ⟨w.heap.size, 1, none⟩) hsz).trans hfz1
  have HB3 := Lib.hid (below_by HB.out hb)
  have HU3 := Lib.hid (HU.out.below hb)
  have hlt := hb.size
  clear hb
  have hz : w.heap.size < w3.heap.size := Nat.lt_of_lt_of_le hsz hlt
  go_wp2_with fail
  exact bodyPost_ret (v := .tuple #[.agg #[.bool sg, .slice A (limbs N).length c], .bool true]) (by simp [results, Try.results49, go_sem, c0, c1, hf0, hf1, hz]) rfl ⟨_, rfl, ((HU3.out.set (p := ⟨w.heap.size, 0, none⟩) (by simp) _).set (p := ⟨w.heap.size, 1, none⟩) (by simp) _).lower (by simp), (HB3.out.setCell (p := ⟨w.heap.size, 0, none⟩) (Nat.le_refl _) _).setCell (p := ⟨w.heap.size, 1, none⟩) (Nat.le_refl _) _⟩
set_option maxHeartbeats 2000000 in
set_option maxRecDepth 100000 in
theorem parseWhole_neg (s : ByteArray) (N : Nat) (w : World) (hs : 0 < s.size) (h0 : bt s 0 = 45)
    (h53 : ∀ W, Calls Try.prog 53 #[.string (s.extract 1 s.size)] W fun e w' => ∃ v, e = .returned (.tuple #[v, .bool true]) ∧ IsNew w' W.heap.size v N ∧ Below W.heap.size W w') :
    Calls Try.prog 49 #[.string s] w fun e w' => ∃ v, e = .returned (.tuple #[.agg #[.bool (true && decide (0 < N)), v], .bool true]) ∧ IsNew w' w.heap.size v N ∧ Below w.heap.size w w' := by
  have X53 := Lib.hid h53
  have X41 := Lib.hid (fun u W h => wholeMk_any true u N W h)
  have hE := toList_ne s hs
  have hb2 := bt_at s 0 (by simpa using hs)
  have hE2 : s.toList.isEmpty = false := by cases h : s.toList with
    | nil => rw [h] at hE; simp at hE
    | cons a l => rfl
  have e1 : (((s[(0 : Int).toNat]'(by simpa using hs)).toNat : Int) == 45) = true := by rw [hb2, h0]; rfl
  have e1' : (((s[0]'hs).toNat : Int) == 45) = true := e1
  generalize (true && decide (0 < N)) = sg at *
  clear h53 hb2
  have HC0 := Lib.hid ((Cells.box2 (Cells.nil w) rfl (.bool false) (.slice none 0 0) 32))
  go_enter Try.func49, Try.ntmps49
  go_wp2_with fail
  refine (X53.out _).mono ?_
  rintro e w2 ⟨v, rfl, hu, hb⟩
  have HC := Lib.hid (HC0.out.call hb)
  have HB := Lib.hid (below_one _ hb)
  have HU := Lib.hid hu
  have hsz : w.heap.size < w2.heap.size := by have := hb.size; simp at this; omega
  have hfz : w2.frozen? ⟨w.heap.size, 0, none⟩ = false := (hb.frozen (p := ⟨w.heap.size, 0, none⟩) (by simp)).trans (by simp)
  have hfz1 : w2.frozen? ⟨w.heap.size, 1, none⟩ = false := (hb.frozen (p := ⟨w.heap.size, 1, none⟩) (by simp)).trans (by simp)
  obtain ⟨A, c, rfl⟩ := hu.slice
  clear hu hb
  go_wp2_with fail
  refine (X41.out _ _ HU.out.isNat).mono ?_
  rintro e w3 ⟨rfl, hb⟩
  obtain ⟨c0, c1, -⟩ := HC.out.call hb
  have hf0 := (hb.frozen (p := ⟨w.heap.size, 0, none⟩) hsz).trans hfz
  have hf1 := (hb.frozen (p := ⟨w.heap.size, 1, none⟩) hsz).trans hfz1
  have HB3 := Lib.hid (below_by HB.out hb)
  have HU3 := Lib.hid (HU.out.below hb)
  have hlt := hb.size
  clear hb
  have hz : w.heap.size < w3.heap.size := Nat.lt_of_lt_of_le hsz hlt
  go_wp2_with fail
  exact bodyPost_ret (v := .tuple #[.agg #[.bool sg, .slice A (limbs N).length c], .bool true]) (by simp [results, Try.results49, go_sem, c0, c1, hf0, hf1, hz]) rfl ⟨_, rfl, ((HU3.out.set (p := ⟨w.heap.size, 0, none⟩) (by simp) _).set (p := ⟨w.heap.size, 1, none⟩) (by simp) _).lower (by simp), (HB3.out.setCell (p := ⟨w.heap.size, 0, none⟩) (Nat.le_refl _) _).setCell (p := ⟨w.heap.size, 1, none⟩) (Nat.le_refl _) _⟩
end Go.Proofs.Ythkmgjkajllemaa.Spec

/- Numbers out of texts: WholeIn. -/
namespace Go.Proofs.Ythkmgjkajllemaa.Spec
open Go.RowKit Go.Proofs.YthkmgjkajllemaaW.PrintWords Go.Proofs.YthkmgjkajllemaaW.PrintLast Go.Proofs.YthkmgjkajllemaaW.PrintMore Go.Proofs.Ythkmgjkajllemaa.Num Go.Proofs.Ythkmgjkajllemaa.Str Go.Proofs.Ythkmgjkajllemaa.Nats Go.Proofs.Ythkmgjkajllemaa.Val Go.Proofs.Ythkmgjkajllemaa.NatOf Go.Proofs.Ythkmgjkajllemaa.Mem Go.Proofs.Ythkmgjkajllemaa.NatOps
set_option linter.unusedVariables false
set_option linter.unusedSimpArgs false

set_option maxHeartbeats 2000000 in
set_option maxRecDepth 100000 in
theorem wholeIn_any (s : ByteArray) (sg : Bool) (N : Nat) (w : World)
    (h49 : ∀ W, Calls Try.prog 49 #[.string s] W fun e w' => ∃ v, e = .returned (.tuple #[.agg #[.bool sg, v], .bool true]) ∧ IsNew w' W.heap.size v N ∧ Below W.heap.size W w') :
    Calls Try.prog 40 #[.string s] w fun e w' => ∃ v, e = .returned (.agg #[.bool sg, v]) ∧ IsNew w' w.heap.size v N ∧ Below w.heap.size w w' := by
  have X49 := Lib.hid h49
  have HC0 := Lib.hid ((Cells.box2 (Cells.nil w) rfl (.bool false) (.slice none 0 0) 32))
  clear h49
  go_enter Try.func40, Try.ntmps40
  go_wp2_with fail
  refine (X49.out _).mono ?_
  rintro e w2 ⟨v, rfl, hu, hb⟩
  have HC := Lib.hid (HC0.out.call hb)
  have HB := Lib.hid (below_one _ hb)
  have HU := Lib.hid hu
  have hsz : w.heap.size < w2.heap.size := by have := hb.size; simp at this; omega
  have hfz : w2.frozen? ⟨w.heap.size, 0, none⟩ = false := (hb.frozen (p := ⟨w.heap.size, 0, none⟩) (by simp)).trans (by simp)
  have hfz1 : w2.frozen? ⟨w.heap.size, 1, none⟩ = false := (hb.frozen (p := ⟨w.heap.size, 1, none⟩) (by simp)).trans (by simp)
  obtain ⟨A, c, rfl⟩ := hu.slice
  obtain ⟨c0, c1, -⟩ := HC.out
  have hne : w2.heap.size ≠ w.heap.size := by omega
  have hne' : w.heap.size ≠ w2.heap.size := by omega
  clear hu hb
  go_wp2_with fail
  have hlt0 : w.heap.size < (w.alloc (.cells #[.bool false, .slice none 0 0] 32)).heap.size := by simp
  have HUs := Lib.hid ((((HU.out.set (p := ⟨w.heap.size, 0, none⟩) hlt0 (.bool sg)).set (p := ⟨w.heap.size, 1, none⟩) hlt0 (.slice A (limbs N).length c)).alloc (.cells #[.bool sg, .slice A (limbs N).length c] 32)).lower (Nat.le_of_lt hlt0))
  have HBs := Lib.hid (below_at ((HB.out.setCell (p := ⟨w.heap.size, 0, none⟩) (Nat.le_refl _) (.bool sg)).setCell (p := ⟨w.heap.size, 1, none⟩) (Nat.le_refl _) (.slice A (limbs N).length c)) (.cells #[.bool sg, .slice A (limbs N).length c] 32))
  exact bodyPost_ret (v := .agg #[.bool sg, .slice A (limbs N).length c]) (by simp [results, Try.results40, go_sem, c0, c1, hfz, hfz1, hsz, hne, hne']) rfl ⟨_, rfl, HUs.out, HBs.out⟩
end Go.Proofs.Ythkmgjkajllemaa.Spec

/- Numbers out of texts: DecIn. -/
namespace Go.Proofs.Ythkmgjkajllemaa.Spec
open Go.RowKit Go.Proofs.YthkmgjkajllemaaW.PrintWords Go.Proofs.YthkmgjkajllemaaW.PrintLast Go.Proofs.YthkmgjkajllemaaW.PrintMore Go.Proofs.Ythkmgjkajllemaa.Num Go.Proofs.Ythkmgjkajllemaa.Str Go.Proofs.Ythkmgjkajllemaa.Nats Go.Proofs.Ythkmgjkajllemaa.Val Go.Proofs.Ythkmgjkajllemaa.NatOf Go.Proofs.Ythkmgjkajllemaa.Mem Go.Proofs.Ythkmgjkajllemaa.NatOps
set_option linter.unusedVariables false
set_option linter.unusedSimpArgs false

set_option maxHeartbeats 2000000 in
set_option maxRecDepth 100000 in
theorem decIn_any (s : ByteArray) (e : Int) (sg : Bool) (N : Nat) (w : World)
    (h40 : ∀ W, Calls Try.prog 40 #[.string s] W fun e w' => ∃ v, e = .returned (.agg #[.bool sg, v]) ∧ IsNew w' W.heap.size v N ∧ Below W.heap.size W w') :
    Calls Try.prog 30 #[.agg #[.string s, .int .i64 e]] w fun r w' => ∃ v, r = .returned (.agg #[.bool sg, v, .int .i64 e]) ∧ IsNew w' w.heap.size v N ∧ Below w.heap.size w w' := by
  have HP := Lib.hid h40
  have HS : Hid (St w ((w.alloc (.cells #[.string s, .int .i64 e] 24)).alloc (.cells #[.bool false, .slice none 0 0, .int .i64 0] 35))
      [(w.heap.size + 1, 0, .bool false), (w.heap.size + 1, 1, .slice none 0 0), (w.heap.size + 1, 2, .int .i64 0), (w.heap.size, 0, .string s), (w.heap.size, 1, .int .i64 e)] (w.heap.size + 1) 3) :=
    ⟨Cells.box3 (Cells.box2 (Cells.nil _) rfl _ _ _) (by simp) _ _ _ _, fun o _ => free_box (by simp) _ _ _, by simp, ((Below.refl _ _).alloc (Nat.le_refl _) _).alloc (by simp) _⟩
  have hne : w.heap.size + 1 ≠ w.heap.size := by omega
  clear h40
  go_enter Try.func30, Try.ntmps30
  go_wp2
  obtain ⟨W, hW⟩ : ∃ W, (w.alloc (.cells #[.string s, .int .i64 e] 24)).alloc (.cells #[.bool false, .slice none 0 0, .int .i64 0] 35) = W := ⟨_, rfl⟩
  rw [hW] at HS ⊢
  clear hW
  have HS1 := Lib.hid (HS.out.call (below_drew (Below.refl _ _)))
  clear HS
  go_region_held3 (fun W' => W'.cell? ⟨w.heap.size, 0, none⟩ = some (.string s) ∧ W'.cell? ⟨w.heap.size, 1, none⟩ = some (.int .i64 e))
    (first | exact (by have h := HS2.out.cells.2.2.2; exact ⟨h.1, h.2.1⟩) | exact (by have h := HS1.out.cells.2.2.2; exact ⟨h.1, h.2.1⟩) | go_keep)
    (first | (go_at_call 40; (refine (HP.out _).mono ?_); rintro r w2 ⟨v, rfl, hn, hb⟩; have HS2 := Lib.hid (HS1.out.call hb); have HG2 := Lib.hid hn; obtain ⟨A2, c2, rfl⟩ := hn.slice; obtain ⟨d0, d1, d2, b0', b1', -⟩ := HS2.out.cells; have f0 := HS2.out.free 0 (by omega); have f1 := HS2.out.free 1 (by omega); have f2 := HS2.out.free 2 (by omega); have hz := HS2.out.lt; clear hn hb))
  all_goals (go_wp2; have HF : Hid (Below w.heap.size w _) := ((HS2.out.below.setCell (p := ⟨w.heap.size + 1, 0, none⟩) (Nat.le_succ _) (.bool sg)).setCell (p := ⟨w.heap.size + 1, 1, none⟩) (Nat.le_succ _) (.slice A2 (limbs N).length c2)).setCell (p := ⟨w.heap.size + 1, 2, none⟩) (Nat.le_succ _) (.int .i64 e); exact bodyPost_ret (v := .agg #[.bool sg, .slice A2 (limbs N).length c2, .int .i64 e]) (by simp [results, Try.results30, go_sem, d0, d1, d2, f0, f1, f2, hz]) rfl ⟨_, rfl, (((HG2.out.set (by have := HS1.out.lt; exact this) _).set (by have := HS1.out.lt; exact this) _).set (by have := HS1.out.lt; exact this) _).lower HS1.out.below.size, HF.out⟩)
end Go.Proofs.Ythkmgjkajllemaa.Spec
