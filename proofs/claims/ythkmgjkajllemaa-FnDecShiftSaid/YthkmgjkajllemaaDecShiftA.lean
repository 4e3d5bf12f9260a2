/- Lemmas and contracts of functions for the theorem of YthkmgjkajllemaaDecShiftE. -/
import Derived.WalkKit
import Derived.Laws.BytesArg
import Derived.Test.YthkmgjkajllemaaPNatFromx
import Derived.Outline
import Derived.RegionTactic
import Derived.Lib.Hide
import Derived.WalkSpells
import Derived.Laws.Bits64
import Derived.Laws.BitsAllLaws
import Derived.Test.YthkmgjkajllemaaRows
import Derived.Below
import Derived.Test.YthkmgjkajllemaaPplacesx
import Derived.Deep.RegionWith
import Derived.LaidEqlPtr

/- Plain facts on numbers, their limbs of nine digits and their decimal digits; no program is in sight. -/
namespace Go.Proofs.Ythkmgjkajllemaa.Num
open Go.RowKit

/-- The limbs of a number, nine digits each, the lowest ones first. -/
def limbs (n : Nat) : List Int := if n = 0 then [] else ((n % 1000000000 : Nat) : Int) :: limbs (n / 1000000000)
termination_by n
decreasing_by omega

theorem limbs_zero : limbs 0 = [] := by unfold limbs; rfl
theorem limbs_pos {n : Nat} (h : 0 < n) : limbs n = ((n % 1000000000 : Nat) : Int) :: limbs (n / 1000000000) := by
  rw [limbs, if_neg (by omega)]
theorem limbs_nil {n : Nat} (h : limbs n = []) : n = 0 := by
  rcases Nat.eq_zero_or_pos n with h0 | h0
  · exact h0
  · rw [limbs_pos h0] at h; simp at h

/-- The decimal digits of a number as bytes, the lowest ones first. -/
def decs (n : Nat) : List Int := if n = 0 then [] else ((48 + n % 10 : Nat) : Int) :: decs (n / 10)
termination_by n
decreasing_by omega

theorem decs_zero : decs 0 = [] := by unfold decs; rfl
theorem decs_pos {n : Nat} (h : 0 < n) : decs n = ((48 + n % 10 : Nat) : Int) :: decs (n / 10) := by
  rw [decs, if_neg (by omega)]

/-- The lowest m decimal digits. -/
def lows : Nat → Nat → List Int
  | 0, _ => []
  | m + 1, n => ((48 + n % 10 : Nat) : Int) :: lows m (n / 10)

theorem lows_split (m : Nat) : ∀ (n : Nat), n < 10 ^ m → 0 < m → ∀ h : Nat, 0 < h → decs (h * 10 ^ m + n) = lows m n ++ decs h := by
  induction m with
  | zero => intro n _ h0; omega
  | succ m ih =>
    intro n hn _ h hh
    have hp : 0 < 10 ^ m := Nat.pow_pos (by decide)
    have e : h * 10 ^ (m + 1) + n = 10 * (h * 10 ^ m) + n := by rw [Nat.pow_succ, Nat.mul_comm (10 ^ m) 10, ← Nat.mul_assoc, Nat.mul_comm h 10, Nat.mul_assoc]
    have hhp : 0 < h * 10 ^ m := Nat.mul_pos hh hp
    rw [decs_pos (by rw [e]; omega), lows]
    have e1 : (h * 10 ^ (m + 1) + n) % 10 = n % 10 := by rw [e]; omega
    have e2 : (h * 10 ^ (m + 1) + n) / 10 = h * 10 ^ m + n / 10 := by rw [e]; omega
    rw [e1, e2]
    rcases Nat.eq_zero_or_pos m with h0 | h0
    · subst h0
      have : n / 10 = 0 := by simp at hn; omega
      simp [this, lows]
    · rw [ih (n / 10) (by rw [Nat.pow_succ] at hn; omega) h0 h hh]
      rfl

theorem decs_limb (n : Nat) (h : 0 < n / 1000000000) : decs n = lows 9 (n % 1000000000) ++ decs (n / 1000000000) := by
  have := lows_split 9 (n % 1000000000) (by omega) (by omega) (n / 1000000000) h
  rw [← this]
  congr 1
  omega

theorem decs_length (m : Nat) : ∀ n, n < 10 ^ m → (decs n).length ≤ m := by
  induction m with
  | zero =>
    intro n hn
    have : n = 0 := by simpa using hn
    subst this; simp [decs_zero]
  | succ m ih =>
    intro n hn
    rcases Nat.eq_zero_or_pos n with h0 | h0
    · subst h0; simp [decs_zero]
    · rw [decs_pos h0]
      have := ih (n / 10) (by rw [Nat.pow_succ] at hn; omega)
      simp; omega
theorem lows_length (m : Nat) : ∀ n, (lows m n).length = m := by
  induction m with
  | zero => intro n; rfl
  | succ m ih => intro n; simp [lows, ih]

theorem limbs_length (m : Nat) : ∀ n, n < 1000000000 ^ m → (limbs n).length ≤ m := by
  induction m with
  | zero =>
    intro n hn
    have : n = 0 := by simpa using hn
    subst this; simp [limbs_zero]
  | succ m ih =>
    intro n hn
    rcases Nat.eq_zero_or_pos n with h0 | h0
    · subst h0; simp [limbs_zero]
    · rw [limbs_pos h0]
      have := ih (n / 1000000000) (by rw [Nat.pow_succ] at hn; exact Nat.div_lt_of_lt_mul (by rw [Nat.mul_comm]; exact hn))
      simp; omega

/-- What is left of a number behind its i lowest limbs. -/
def rest (n i : Nat) : Nat := n / 1000000000 ^ i
theorem rest_zero (n : Nat) : rest n 0 = n := by unfold rest; simp
theorem rest_succ (n i : Nat) : rest n (i + 1) = rest n i / 1000000000 := by unfold rest; rw [Nat.pow_succ, Nat.div_div_eq_div_mul]
theorem limbs_drop (n : Nat) : ∀ i, (limbs n).drop i = limbs (rest n i) := by
  intro i
  induction i with
  | zero => rw [rest_zero]; rfl
  | succ i ih =>
    rw [rest_succ]
    have e : (limbs n).drop (i + 1) = ((limbs n).drop i).tail := by simp
    rw [e, ih]
    rcases Nat.eq_zero_or_pos (rest n i) with h0 | h0
    · rw [h0]; simp [limbs_zero]
    · rw [limbs_pos h0]; rfl
theorem limbs_at (n i : Nat) (h : i < (limbs n).length) : (limbs n).getD i 0 = ((rest n i % 1000000000 : Nat) : Int) ∧ 0 < rest n i := by
  have hd := limbs_drop n i
  have hpos : 0 < rest n i := by
    rcases Nat.eq_zero_or_pos (rest n i) with h0 | h0
    · rw [h0, limbs_zero] at hd
      have := congrArg List.length hd
      simp at this
      omega
    · exact h0
  refine ⟨?_, hpos⟩
  rw [limbs_pos hpos] at hd
  have := congrArg (fun t => t[0]?) hd
  simp [List.getElem?_drop] at this
  simp [this]
theorem rest_pos (n i : Nat) : i < (limbs n).length ↔ 0 < rest n i := by
  refine ⟨fun h => (limbs_at n i h).2, fun h => ?_⟩
  have hd := congrArg List.length (limbs_drop n i)
  rw [limbs_pos h] at hd
  simp at hd
  omega

/-- What is still to be written of the limb x at its digit j, and of the limbs q above it. -/
def remd (j x q : Nat) : List Int := if 0 < q then lows (9 - j) x ++ decs q else decs x
theorem remd_step (j x q : Nat) (hj : j < 9) (h : 0 < x ∨ 0 < q) : remd j x q = ((48 + x % 10 : Nat) : Int) :: remd (j + 1) (x / 10) q := by
  unfold remd
  by_cases hq : 0 < q
  · rw [if_pos hq, if_pos hq, show 9 - j = (9 - (j + 1)) + 1 by omega, lows]
    rfl
  · rw [if_neg hq, if_neg hq, decs_pos (by omega)]
theorem remd_end9 (x q : Nat) (hx : 0 < q ∨ x = 0) : remd 9 x q = decs q := by
  unfold remd
  by_cases hq : 0 < q
  · rw [if_pos hq]; rfl
  · rw [if_neg hq, show q = 0 by omega, show x = 0 by omega]
theorem remd_end0 (j : Nat) : remd j 0 0 = decs 0 := by unfold remd; rw [if_neg (by omega)]
theorem remd_start (n : Nat) : decs n = remd 0 (n % 1000000000) (n / 1000000000) := by
  unfold remd
  by_cases hq : 0 < n / 1000000000
  · rw [if_pos hq, decs_limb n hq]
  · rw [if_neg hq, show n % 1000000000 = n by omega]

theorem decs_bytes (n : Nat) : ∀ x ∈ decs n, 48 ≤ x ∧ x ≤ 57 := by
  induction n using Nat.strongRecOn with
  | ind n ih =>
    rcases Nat.eq_zero_or_pos n with h0 | h0
    · subst h0; simp [decs_zero]
    · rw [decs_pos h0]
      intro x hx
      rcases List.mem_cons.1 hx with rfl | hx
      · omega
      · exact ih _ (by omega) x hx
theorem decs_at (n : Nat) : ∀ z, z < (decs n).length → (decs n).getD z 0 = ((48 + n / 10 ^ z % 10 : Nat) : Int) := by
  induction n using Nat.strongRecOn with
  | ind n ih =>
    intro z hz
    rcases Nat.eq_zero_or_pos n with h0 | h0
    · subst h0; simp [decs_zero] at hz
    · rw [decs_pos h0] at hz ⊢
      cases z with
      | zero => simp
      | succ z =>
        have := ih (n / 10) (by omega) z (by simpa using hz)
        rw [List.getD_cons_succ, this, Nat.pow_succ, Nat.mul_comm, Nat.div_div_eq_div_mul]

/-- The text of a number. -/
def text (n : Nat) : ByteArray := if n = 0 then ⟨#[48]⟩ else strOfNums (decs n).reverse
theorem text_size (n : Nat) (h : 0 < n) : (text n).size = (decs n).length := by
  unfold text
  rw [if_neg (by omega), strOfNums_size, List.length_reverse]

/-- Two lists turned round, from both ends to the middle. -/
structure Turned (xs ys : List Int) (i : Nat) : Prop where
  len : ys.length = xs.length
  out : ∀ k, k < xs.length → (k < i ∨ xs.length - 1 - i < k) → ys.getD k 0 = xs.getD (xs.length - 1 - k) 0
  mid : ∀ k, k < xs.length → i ≤ k → k ≤ xs.length - 1 - i → ys.getD k 0 = xs.getD k 0
theorem Turned.start (xs : List Int) : Turned xs xs 0 := ⟨rfl, fun k hk h => by omega, fun _ _ _ _ => rfl⟩
theorem getD_set (ys : List Int) (i k : Nat) (v : Int) (h : i < ys.length) : (ys.set i v).getD k 0 = if k = i then v else ys.getD k 0 := by
  rw [List.getD_eq_getElem?_getD, List.getD_eq_getElem?_getD, List.getElem?_set]
  by_cases e : i = k
  · subst e; simp [h]
  · rw [if_neg e, if_neg (by omega)]
theorem Turned.step {xs ys : List Int} {i : Nat} (h : Turned xs ys i) (hi : i < xs.length - 1 - i) :
    Turned xs ((ys.set i (ys.getD (xs.length - 1 - i) 0)).set (xs.length - 1 - i) (ys.getD i 0)) (i + 1) := by
  have hl := h.len
  have a := h.mid i (by omega) (by omega) (by omega)
  have b := h.mid (xs.length - 1 - i) (by omega) (by omega) (by omega)
  refine ⟨by simp [hl], fun k hk hc => ?_, fun k hk h1 h2 => ?_⟩
  · rw [getD_set _ _ _ _ (by simp; omega), getD_set _ _ _ _ (by omega)]
    by_cases e1 : k = xs.length - 1 - i
    · subst e1
      rw [if_pos rfl, a, show xs.length - 1 - (xs.length - 1 - i) = i by omega]
    · rw [if_neg e1]
      by_cases e2 : k = i
      · subst e2; rw [if_pos rfl, b]
      · rw [if_neg e2]
        exact h.out k hk (by omega)
  · rw [getD_set _ _ _ _ (by simp; omega), getD_set _ _ _ _ (by omega), if_neg (by omega), if_neg (by omega)]
    exact h.mid k hk (by omega) (by omega)
theorem Turned.done {xs ys : List Int} {i : Nat} (h : Turned xs ys i) (hi : ¬ i < xs.length - 1 - i) : ys = xs.reverse := by
  apply List.ext_getElem?
  intro k
  by_cases hk : k < xs.length
  · have hv : ys.getD k 0 = xs.getD (xs.length - 1 - k) 0 := by
      by_cases hc : k < i ∨ xs.length - 1 - i < k
      · exact h.out k hk hc
      · have e := h.mid k hk (by omega) (by omega)
        rw [e, show xs.length - 1 - k = k by omega]
    rw [List.getElem?_reverse hk]
    have hl := h.len
    rw [List.getD_eq_getElem?_getD, List.getD_eq_getElem?_getD, List.getElem?_eq_getElem (by omega), List.getElem?_eq_getElem (by omega)] at hv
    rw [List.getElem?_eq_getElem (by omega), List.getElem?_eq_getElem (by omega)]
    simpa using hv
  · rw [List.getElem?_eq_none (by have := h.len; omega), List.getElem?_eq_none (by simp; omega)]
end Go.Proofs.Ythkmgjkajllemaa.Num

/- The reference's text of a natural number is its decimal digits, and it tells how many there are. -/
namespace Go.Proofs.Ythkmgjkajllemaa.Str
open Go.RowKit Go.Proofs.YthkmgjkajllemaaW.PrintWords Go.Proofs.YthkmgjkajllemaaW.PrintLast Go.Proofs.YthkmgjkajllemaaW.PrintMore Go.Proofs.Ythkmgjkajllemaa.Num
set_option linter.unusedVariables false
set_option linter.unusedSimpArgs false

theorem info5 : (Try.prog.info? 5).map (fun i => (i.zero, i.size, i.bytes)) = some (some (.int .u8 0), 1, 1) := by kernel_rfl

/-- A natural number in memory: a slice of its limbs. -/
def IsNat (w : World) (v : Value) (n : Nat) : Prop := ∃ A c, v = .slice A (limbs n).length c ∧ (limbs n).length ≤ c ∧ Kd.C (Kd.int .u32) w A (limbs n).length (limbs n)
theorem IsNat.below {w w1 : World} {v : Value} {n : Nat} (h : IsNat w v n) (hb : Below w.heap.size w w1) : IsNat w1 v n := by
  obtain ⟨A, c, e, hc, hr⟩ := h
  exact ⟨A, c, e, hc, Kd.C_below hr hb⟩

theorem natFrom_go (d : Nat) : ∀ (k x : Nat) (acc : List Int), d < k → x < 1000000000 ^ d → x < 18446744073709551616 → acc.length + d < 35184372088832 →
    PNatFrom.spec_NatFrom.l0 k (x : Int) acc = some (acc ++ limbs x) := by
  induction d with
  | zero =>
    intro k x acc hk hx hb hl
    obtain ⟨k, rfl⟩ : ∃ m, k = m + 1 := ⟨k - 1, by omega⟩
    have : x = 0 := by simpa using hx
    subst this
    simp [PNatFrom.spec_NatFrom.l0, limbs_zero]
  | succ d ih =>
    intro k x acc hk hx hb hl
    obtain ⟨k, rfl⟩ : ∃ m, k = m + 1 := ⟨k - 1, by omega⟩
    by_cases h0 : x = 0
    · subst h0
      simp [PNatFrom.spec_NatFrom.l0, limbs_zero]
    · have e1 : IntKind.u64.wrap (Int.tdiv (x : Int) 1000000000) = ((x / 1000000000 : Nat) : Int) := by
        rw [Int.tdiv_eq_ediv_of_nonneg (by omega), IntWalk.u64_in _ (by omega)]
        omega
      have e2 : (Int.tmod (x : Int) 1000000000) % 4294967296 = ((x % 1000000000 : Nat) : Int) := by
        rw [Int.tmod_eq_emod_of_nonneg (by omega)]
        omega
      rw [PNatFrom.spec_NatFrom.l0, if_pos (by omega), if_pos (by omega), e1, e2, ih k _ _ (by omega) (by
        rw [Nat.pow_succ] at hx
        exact Nat.div_lt_of_lt_mul (by rw [Nat.mul_comm]; exact hx)) (by omega) (by simp; omega), limbs_pos (show 0 < x by omega)]
      simp

/-- NatFrom: the limbs of a number. -/
theorem natFrom_any (x : Nat) (w : World) (h : x < 18446744073709551616) :
    Calls Try.prog 9 #[.int .u64 x] w fun e w' => ∃ v, e = .returned v ∧ IsNat w' v x ∧ Below w.heap.size w w' := by
  have e : PNatFrom.spec_NatFrom.f 4 (x : Int) = some (limbs x) := by
    unfold PNatFrom.spec_NatFrom.f
    rw [natFrom_go 3 4 x [] (by omega) (by omega) h (by simp)]
    rfl
  refine (PNatFrom.spec_NatFrom.calls 4 x _ w e).mono ?_
  rintro e w' ⟨v, rfl, hr, hb⟩
  obtain ⟨A, c, rfl, hc, hr⟩ := Kd.R_reads hr
  exact ⟨_, rfl, ⟨A, c, rfl, hc, hr⟩, hb⟩

set_option maxHeartbeats 4000000 in
set_option maxRecDepth 100000 in
/-- The text of a number. -/
theorem natString_any (n : Nat) (v : Value) (w : World) (hv : IsNat w v n) (hn : (limbs n).length < 1000000000) :
    Calls Try.prog 39 #[v] w fun e w' => e = .returned (.string (text n)) ∧ Below w.heap.size w w' := by
  obtain ⟨A, c, rfl, hc, hr⟩ := hv
  have HR := Aside0.mk hr
  have HB := Aside0.mk (Below.refl w.heap.size w)
  clear hr
  go_enter Try.func39, Try.ntmps39
  go_wp2
  go_loopw [3, 11] (fun v3 v11 w' => ∃ (xs : List Int) (i : Nat), v11 = .int .i64 i ∧ i ≤ (limbs n).length ∧ Aside0 (xs ++ decs (rest n i) = decs n) ∧ xs.length ≤ 9 * i ∧ Aside0 (Kd.R (Kd.int .u8) 5 w' w.heap.size (fun _ => True) v3 xs) ∧ Aside0 (Below w.heap.size w w')) (fun _ v11 _ => (limbs n).length - (intOf v11).toNat)
  case atStart => exact ⟨[], 0, rfl, Nat.zero_le _, ⟨by rw [rest_zero]; rfl⟩, by simp, ⟨Kd.R_nil _ _ _ _ _⟩, HB⟩
  case round =>
    obtain ⟨xs, i, rfl, hi, HX, hxl, HO, HB⟩ := hrel
    by_cases hlt : i < (limbs n).length
    · obtain ⟨hx, hpos⟩ := limbs_at n i hlt
      obtain ⟨ad, e0, hc0⟩ := Kd.at_int HR.out (i : Int) (by omega) (by omega)
      have hc1 := (HB.out.cell (World.block_lt_of_cell? w _ hc0)).trans hc0
      have hq := rest_pos n (i + 1)
      rw [rest_succ] at hq
      obtain ⟨x, hx2⟩ : ∃ x, rest n i % 1000000000 = x := ⟨_, rfl⟩
      obtain ⟨q, hq2⟩ : ∃ q, rest n i / 1000000000 = q := ⟨_, rfl⟩
      have hx9 : x < 1000000000 := by omega
      rw [hq2] at hq
      unfold rd at hc1
      rw [Int.toNat_natCast, hx, hx2] at hc1
      subst e0
      have HX1 : Aside0 (xs ++ remd 0 x q = decs n) := ⟨by rw [← HX.out, remd_start (rest n i), hx2, hq2]⟩
      have HQ : Aside0 (rest n (i + 1) = q) := ⟨by rw [rest_succ, hq2]⟩
      clear hc0 hx hx2 hq2 HX
      go_wp2
      go_loopw [3, 5, 6] (fun v3 v5 v6 w' => ∃ (ys : List Int) (y j : Nat), v5 = .int .u32 y ∧ v6 = .int .i64 j ∧ j ≤ 9 ∧ y < 10 ^ (9 - j) ∧ Aside0 (ys ++ remd j y q = decs n) ∧ ys.length ≤ 9 * i + j ∧ Aside0 (Kd.R (Kd.int .u8) 5 w' w.heap.size (fun _ => True) v3 ys) ∧ Aside0 (Below w.heap.size w w')) (fun _ _ v6 _ => 9 - (intOf v6).toNat)
      case atStart => exact ⟨xs, x, 0, rfl, rfl, by omega, by omega, HX1, by omega, HO, HB⟩
      case round =>
        clear HX1 hx9 hxl HO HB hc1
        obtain ⟨ys, y, j, rfl, rfl, hj, hy, HX, hyl, HO, HB⟩ := hrel
        have hy9 : y < 1000000000 := Nat.lt_of_lt_of_le hy (Nat.pow_le_pow_right (by omega) (show 9 - j ≤ 9 by omega))
        by_cases hj9 : j < 9
        · by_cases hmore : 0 < y ∨ 0 < q
          · have hstep := remd_step j y q hj9 hmore
            have hy' : y / 10 < 10 ^ (9 - (j + 1)) := by
              rw [show 9 - j = (9 - (j + 1)) + 1 by omega, Nat.pow_succ] at hy
              omega
            have HX2 : Aside0 ((ys ++ [((48 + y % 10 : Nat) : Int)]) ++ remd (j + 1) (y / 10) q = decs n) := ⟨by rw [← HX.out, hstep]; simp⟩
            clear hstep hy
            have hj9b : decide ((j : Int) < 9) = true := decide_eq_true (by omega)
            by_cases hy0 : 0 < y
            · go_wp2_with (first | ((with_reducible refine gate_builtin (b := .append) (xs := #[.tmp 31, .tmp 36]) rfl ?_); at_builtin; refine Kd.R_append (Kd.int .u8) (w0 := w) w.heap.size rfl (.tmp 31) (.tmp 36) 70 5 (.int .u8 0) 1 rfl Try.underlying70 info5 rfl (by decide) (by omega) u3 ys (48 + (y : Int) % 10) [.int .u8 (48 + (y : Int) % 10)] (fun _ => True) (fun _ => False) rfl rfl ?aP (fun _ hk => hk.elim) ?aF ?aO ?aB ?aS ?aL ?_; (case aP => exact rfl); (case aB => exact HB.out); (case aF => exact (fun _ _ => trivial)); (case aO => exact HO.out); (case aS => exact HB.out.size); (case aL => omega); intro v1 w1 ho hb hg hat; have HO1 := Aside0.mk ho; have HB1 := Aside0.mk hb; clear ho hb hg hat HO HB))
              go_roundw
              case rel => exact ⟨_, y / 10, j + 1, by go_num, by go_num, by omega, hy', HX2, by simp; omega, HO1, HB1⟩
              case measure => simp [intOf]; omega
            · obtain rfl : y = 0 := by omega
              have hq0 : i + 1 < (limbs n).length := hq.2 (by omega)
              go_wp2_with (first | ((with_reducible refine gate_builtin (b := .append) (xs := #[.tmp 31, .tmp 36]) rfl ?_); at_builtin; refine Kd.R_append (Kd.int .u8) (w0 := w) w.heap.size rfl (.tmp 31) (.tmp 36) 70 5 (.int .u8 0) 1 rfl Try.underlying70 info5 rfl (by decide) (by omega) u3 ys (48) [.int .u8 (48)] (fun _ => True) (fun _ => False) rfl rfl ?aP (fun _ hk => hk.elim) ?aF ?aO ?aB ?aS ?aL ?_; (case aP => exact rfl); (case aB => exact HB.out); (case aF => exact (fun _ _ => trivial)); (case aO => exact HO.out); (case aS => exact HB.out.size); (case aL => omega); intro v1 w1 ho hb hg hat; have HO1 := Aside0.mk ho; have HB1 := Aside0.mk hb; clear ho hb hg hat HO HB))
              go_roundw
              case rel => exact ⟨_, 0, j + 1, by go_num, by go_num, by omega, hy', HX2, by simp; omega, HO1, HB1⟩
              case measure => simp [intOf]; omega
          · obtain rfl : y = 0 := by omega
            have hq0 : ¬ i + 1 < (limbs n).length := fun h => hmore (.inr (hq.1 h))
            have hX3 : Aside0 (ys ++ decs (rest n (i + 1)) = decs n) := ⟨by rw [HQ.out, ← HX.out, show q = 0 by omega, remd_end0]⟩
            have hj9b : decide ((j : Int) < 9) = true := decide_eq_true (by omega)
            go_wp2
            go_roundw
            case rel => exact ⟨ys, i + 1, by go_num, by omega, hX3, by omega, HO, HB⟩
            case measure => simp [intOf]; omega
        · obtain rfl : j = 9 := by omega
          obtain rfl : y = 0 := by simpa using hy
          have hX3 : Aside0 (ys ++ decs (rest n (i + 1)) = decs n) := ⟨by rw [HQ.out, ← HX.out, remd_end9 0 q (by omega)]⟩
          go_wp2
          go_roundw
          case rel => exact ⟨ys, i + 1, by go_num, by omega, hX3, by omega, HO, HB⟩
          case measure => simp [intOf]; omega
    · have hi2 : i = (limbs n).length := by omega
      have hr0 : rest n i = 0 := by
        rcases Nat.eq_zero_or_pos (rest n i) with h | h
        · exact h
        · exact absurd ((rest_pos n i).2 h) hlt
      have HXn : Aside0 (xs = decs n) := ⟨by rw [← HX.out, hr0, decs_zero]; simp⟩
      clear hr0 HX
      subst hi2
      obtain ⟨A3, c3, e3, hc3, hr3⟩ := Kd.R_reads HO.out
      subst e3
      by_cases hn0 : n = 0
      · subst hn0
        have hx0 : xs.length = 0 := by rw [HXn.out, decs_zero]; rfl
        go_wp2
        go_ret
        exact ⟨by simp [text], HB.out⟩
      · have hxp : 0 < xs.length := by rw [HXn.out, decs_pos (by omega)]; simp
        obtain ⟨g, cap, eg, hgb, hgl, _⟩ := Kd.R_form HO.out hxp
        cases eg
        have hb9 : xs.length ≤ 9000000000 := by omega
        clear hgl hc3 hr3
        go_wp2
        go_loopw [7, 8] (fun v7 v8 w' => ∃ (ys : List Int) (i j : Nat), v7 = .int .i64 i ∧ v8 = .int .i64 j ∧ Aside0 (i + j + 1 = xs.length) ∧ i ≤ j + 1 ∧ i ≤ xs.length ∧ j < xs.length ∧ Aside0 (Turned xs ys i) ∧ Aside0 (Kd.R (Kd.int .u8) 5 w' w.heap.size (fun _ => True) (.slice (some ⟨g, 0, none⟩) xs.length c3) ys) ∧ Aside0 (Below w.heap.size w w')) (fun _ v8 _ => (intOf v8).toNat)
        case atStart => exact ⟨xs, 0, xs.length - 1, rfl, by go_num, ⟨by omega⟩, by omega, by omega, by omega, ⟨Turned.start xs⟩, HO, HB⟩
        case round =>
          clear HO HB
          obtain ⟨ys, i, j, rfl, rfl, HS, hij, hil, hjl, HT, HO, HB⟩ := hrel
          have hyl := HT.out.len
          by_cases hlt : i < j
          · obtain ⟨hx1, hf1⟩ := Kd.R_celln 0 HO.out (i : Int) (by omega) (by omega)
            obtain ⟨hx2, hf2⟩ := Kd.R_celln 0 HO.out (j : Int) (by omega) (by omega)
            have HP1 := Kd.R_putn HO.out (i : Int) (ys.getD j 0)
            have HP2 := Kd.R_putn HP1 (j : Int) (ys.getD i 0)
            have HT2 := HT.out.step (by have := HS.out; omega)
            rw [show xs.length - 1 - i = j by have := HS.out; omega] at HT2
            unfold rdOf at hx1 hx2
            simp only [Int.toNat_natCast] at hx1 hx2 hf1 hf2 HP2
            obtain ⟨x1, hx1'⟩ : ∃ x1, ys.getD i 0 = x1 := ⟨_, rfl⟩
            obtain ⟨x2, hx2'⟩ : ∃ x2, ys.getD j 0 = x2 := ⟨_, rfl⟩
            rw [hx1'] at hx1 HP2 HT2
            rw [hx2'] at hx2 HP2 HT2
            have HP3 := Aside0.mk HP2
            have HT3 := Aside0.mk HT2
            clear HP1 HP2 HT2 hx1' hx2' HT HO hyl
            go_wp2
            go_region
            go_wp2
            go_roundw
            case rel => exact ⟨_, i + 1, j - 1, by go_num, by go_num, ⟨by have := HS.out; omega⟩, by omega, by omega, by omega, HT3, ⟨Kd.R_drew HP3.out⟩, ⟨below_drew (below_set (below_set HB.out hgb) hgb)⟩⟩
            case measure => simp [intOf]; omega
          · have hd : ys = xs.reverse := HT.out.done (by have := HS.out; omega)
            have hcv := own_string (P := Try.prog) Try.underlying70 Try.underlying5 Try.underlying9 (Kd.own_of_R HO.out)
            have ht : strOfNums ys = text n := by
              unfold text
              rw [if_neg hn0, hd, HXn.out]
            rw [ht] at hcv
            clear hd ht
            go_wp2
            go_ret
            exact ⟨rfl, HB.out⟩

end Go.Proofs.Ythkmgjkajllemaa.Str

/- The thin package writes a big integer as its decimal digits, behind a minus sign if it is below 0. -/
namespace Go.Proofs.Ythkmgjkajllemaa.Big
open Go.RowKit Go.Proofs.YthkmgjkajllemaaW.PrintWords Go.Proofs.YthkmgjkajllemaaW.PrintLast Go.Proofs.YthkmgjkajllemaaW.PrintMore Go.Proofs.Ythkmgjkajllemaa.Num Go.Proofs.Ythkmgjkajllemaa.Str
set_option linter.unusedVariables false
set_option linter.unusedSimpArgs false

/-- The text of a number with a sign. -/
def textZ (neg : Bool) (N : Nat) : ByteArray := if N = 0 then ⟨#[48]⟩ else strOfNums (decs N ++ (if neg then [45] else [])).reverse
theorem info5 : (Try.prog.info? 5).map (fun i => (i.zero, i.size, i.bytes)) = some (some (.int .u8 0), 1, 1) := by kernel_rfl
theorem info22 : (Try.prog.info? 22).map (fun i => (i.zero, i.size, i.bytes)) = some (some (.int .u64 0), 1, 8) := by kernel_rfl

/-- A slice's length. -/
def slen : Value → Nat
  | .slice _ n _ => n
  | _ => 0
/-- What words of 64 bits are worth. -/
def v64 : List Int → Int
  | [] => 0
  | x :: l => x + 18446744073709551616 * v64 l
/-- What words of 32 bits are worth. -/
def v32 : List Int → Int
  | [] => 0
  | x :: l => x + 4294967296 * v32 l
/-- Words of 64 bits as words of 32 bits. -/
def spl : List Int → List Int
  | [] => []
  | x :: l => (x % 4294967296) :: (x / 4294967296) :: spl l
theorem spl_append (l r : List Int) : spl (l ++ r) = spl l ++ spl r := by
  induction l with
  | nil => rfl
  | cons x l ih => simp [spl, ih]
theorem spl_length (l : List Int) : (spl l).length = 2 * l.length := by
  induction l with
  | nil => rfl
  | cons x l ih => simp [spl, ih]; omega
theorem v32_spl (l : List Int) : v32 (spl l) = v64 l := by
  induction l with
  | nil => rfl
  | cons x l ih => simp only [spl, v32, v64, ih]; omega

theorem v32_nonneg (l : List Int) (h : ∀ k, 0 ≤ l.getD k 0 ∧ l.getD k 0 < 4294967296) : 0 ≤ v32 l := by
  induction l with
  | nil => exact Int.le_refl _
  | cons x l ih =>
    have h0 := h 0
    have := ih (fun k => by have := h (k + 1); simpa using this)
    simp at h0
    simp only [v32]
    omega
theorem v32_drop (l : List Int) (k : Nat) : v32 (l.drop k) = l.getD k 0 + 4294967296 * v32 (l.drop (k + 1)) := by
  by_cases h : k < l.length
  · rw [List.drop_eq_getElem_cons h, v32, List.getD_eq_getElem?_getD, List.getElem?_eq_getElem h]
    rfl
  · rw [List.drop_eq_nil_of_le (by omega), List.drop_eq_nil_of_le (by omega), List.getD_eq_getElem?_getD, List.getElem?_eq_none (by omega)]
    rfl
theorem v32_snoc_zero (l : List Int) : v32 (l ++ [0]) = v32 l := by
  induction l with
  | nil => rfl
  | cons x l ih => simp only [List.cons_append, v32, ih]
/-- All words are words of 32 bits. -/
def W32 (l : List Int) : Prop := ∀ k, 0 ≤ l.getD k 0 ∧ l.getD k 0 < 4294967296
theorem spl_W32 (l : List Int) (h : ∀ x ∈ l, 0 ≤ x ∧ x < 18446744073709551616) : W32 (spl l) := by
  induction l with
  | nil => intro k; simp [spl]
  | cons x l ih =>
    intro k
    have hx := h x (by simp)
    match k with
    | 0 => simp [spl]; omega
    | 1 => simp [spl]; omega
    | k + 2 => simpa [spl] using ih (fun y hy => h y (by simp [hy])) k
/-- How far the division by nine digits has come: the words from k on are divided, n is left. -/
structure Divided (xs ys : List Int) (k n : Nat) : Prop where
  len : ys.length = xs.length
  low : ∀ i, i < k → ys.getD i 0 = xs.getD i 0
  quo : v32 (ys.drop k) * 1000000000 + n = v32 (xs.drop k)
  left : n < 1000000000
  w32 : W32 ys
theorem v32_take (l : List Int) (z : Nat) (hl : l.length = z + 1) (h0 : l.getD z 0 = 0) : v32 (l.take z) = v32 l := by
  have e : l = l.take z ++ [0] := by
    have h1 := List.take_append_drop z l
    rw [List.drop_eq_getElem_cons (by omega : z < l.length), List.drop_eq_nil_of_le (by omega : l.length ≤ z + 1)] at h1
    rw [List.getD_eq_getElem?_getD, List.getElem?_eq_getElem (by omega : z < l.length), Option.getD_some] at h0
    rw [h0] at h1
    exact h1.symm
  conv => rhs; rw [e]
  rw [v32_snoc_zero]
theorem W32.take {l : List Int} (h : W32 l) (z : Nat) : W32 (l.take z) := by
  intro k
  have := h k
  rw [List.getD_eq_getElem?_getD] at this ⊢
  rw [List.getElem?_take]
  split
  · exact this
  · simp
theorem v32_top (l : List Int) (h : W32 l) (z : Nat) (hl : z < l.length) (hx : 0 < l.getD z 0) : 0 < v32 l := by
  induction l generalizing z with
  | nil => simp at hl
  | cons x l ih =>
    have h0 := h 0
    have ht : W32 l := fun k => by have := h (k + 1); simpa using this
    have hn := v32_nonneg l ht
    simp at h0
    simp only [v32]
    cases z with
    | zero => simp at hx; omega
    | succ z =>
      have := ih ht z (by simpa using hl) (by simpa using hx)
      omega
theorem Divided.start (xs : List Int) (h : W32 xs) : Divided xs xs xs.length 0 :=
  ⟨rfl, fun _ _ => rfl, by simp [v32], by omega, h⟩
theorem Divided.step {xs ys : List Int} {k n : Nat} (h : Divided xs ys (k + 1) n) (hk : k < xs.length) (hx : W32 xs) {x : Nat} (he : xs.getD k 0 = x) :
    Divided xs (ys.set k (((n * 4294967296 + x) / 1000000000 : Nat) : Int)) k ((n * 4294967296 + x) % 1000000000) := by
  have hl := h.len
  have hn := h.left
  have hxk := hx k
  rw [he] at hxk
  refine ⟨by simp [hl], fun i hi => ?_, ?_, by omega, fun i => ?_⟩
  · rw [getD_set _ _ _ _ (by omega), if_neg (by omega)]
    exact h.low i (by omega)
  · rw [v32_drop, v32_drop xs k, he, getD_set _ _ _ _ (by omega), if_pos rfl]
    have e : (ys.set k (((n * 4294967296 + x) / 1000000000 : Nat) : Int)).drop (k + 1) = ys.drop (k + 1) := by
      rw [List.drop_set, if_pos (by omega)]
    rw [e]
    have := h.quo
    omega
  · rw [getD_set _ _ _ _ (by omega)]
    split
    · omega
    · exact h.w32 i

/-- A big integer in memory. -/
structure IsInt (w : World) (g : Nat) (neg : Bool) (ws : List Int) : Prop where
  neg : w.cell? ⟨g, 0, none⟩ = some (.bool neg)
  abs : ∃ A c, w.cell? ⟨g, 1, none⟩ = some (.slice A ws.length c) ∧ ws.length ≤ c ∧ Kd.C (Kd.int .u64) w A ws.length ws

theorem C_two {k : IntKind} {w : World} {g : Nat} {x y : Int} (h : w.cell? ⟨g, 0, none⟩ = some (.int k x)) (h1 : w.cell? ⟨g, 1, none⟩ = some (.int k y)) : (Kd.int k).C w (some ⟨g, 0, none⟩) 2 [x, y] :=
  Kd.C_of_reads (enc := Value.int k) (d := (0 : Int)) ⟨rfl, by omega, fun _ => ⟨_, rfl, fun j hj => by
    match j, hj with
    | 0, _ => simpa [add_plain] using h
    | 1, _ => simpa [add_plain] using h1⟩⟩

theorem rows_two {k : IntKind} {w w1 : World} {g : Nat} {x y : Int} (h : w.cell? ⟨g, 0, none⟩ = some (.int k x)) (h1 : w.cell? ⟨g, 1, none⟩ = some (.int k y)) : ReadsRow ((Kd.int k).K w1) (Kd.int k).sz w (some ⟨g, 0, none⟩) 2 [x, y] := C_two h h1
theorem and32 (x : Nat) (h : x < 18446744073709551616) : bits .and .u64 (x : Int) 4294967295 = ((x % 4294967296 : Nat) : Int) := by
  rw [show (4294967295 : Int) = ((4294967295 : Nat) : Int) from rfl, u64_and_nat x 4294967295 h (by decide)]
  rw [show (4294967295 : Nat) = 2 ^ 32 - 1 from rfl, Nat.and_two_pow_sub_one_eq_mod]
theorem or32 (n x : Nat) (hn : n < 4294967296) (hx : x < 4294967296) : bits .or .u64 ((n : Int) * 4294967296) (x : Int) = ((n * 4294967296 + x : Nat) : Int) := by
  rw [show (n : Int) * 4294967296 = ((n * 4294967296 : Nat) : Int) by omega, u64_or_nat (n * 4294967296) x (by omega) (by omega)]
  rw [show n * 4294967296 = n <<< 32 by rw [Nat.shiftLeft_eq], ← Nat.shiftLeft_add_eq_or_of_lt (by omega : x < 2 ^ 32)]

theorem bits_any (g : Nat) (ws : List Int) (A : Option Addr) (c : Nat) (w : World) (h : w.cell? ⟨g, 1, none⟩ = some (.slice A ws.length c)) :
    Calls Try.prog 37 #[.pointer (some ⟨g, 0, none⟩)] w fun e w' => e = .returned (.slice A ws.length c) ∧ w = w' := by
  go_enter Try.func37, Try.ntmps37
  go_wp2
  go_ret
  exact ⟨rfl, rfl⟩
theorem sign_any (g : Nat) (neg : Bool) (ws : List Int) (A : Option Addr) (c : Nat) (w : World) (h0 : w.cell? ⟨g, 0, none⟩ = some (.bool neg)) (h : w.cell? ⟨g, 1, none⟩ = some (.slice A ws.length c)) (hp : 0 < ws.length) :
    Calls Try.prog 35 #[.pointer (some ⟨g, 0, none⟩)] w fun e w' => e = .returned (.int .i64 (if neg then -1 else 1)) ∧ w = w' := by
  cases neg <;> (go_enter Try.func35, Try.ntmps35; go_wp2; go_ret; exact ⟨rfl, rfl⟩)

set_option maxHeartbeats 4000000 in
set_option maxRecDepth 100000 in
theorem digits_any (g : Nat) (neg : Bool) (ws : List Int) (w : World) (hI : IsInt w g neg ws) (hw : ∀ x ∈ ws, 0 ≤ x ∧ x < 18446744073709551616) (hl : ws.length < 1000000) (N : Nat) (hN : v64 ws = N) (hdl : (decs N).length < 1000000000) :
    Calls Try.prog 24 #[.pointer (some ⟨g, 0, none⟩)] w fun e w' => e = .returned (.string (textZ neg N)) ∧ Below w.heap.size w w' := by
  obtain ⟨hneg, A, c, habs, hc, hr⟩ := hI
  have HR := Aside0.mk hr
  have HB := Aside0.mk (Below.refl w.heap.size w)
  have HN := Aside0.mk hN
  have HWS := Aside0.mk hw
  clear hr hN hw
  have HBITS := Lib.hid (bits_any g ws A c w habs)
  go_enter Try.func24, Try.ntmps24
  go_wp2_with (go_at_call 37; refine HBITS.out.mono ?_; rintro e w' ⟨rfl, rfl⟩)
  go_loopw [3, 15] (fun v3 v15 w' => ∃ (i : Nat), v15 = .int .i64 i ∧ i ≤ ws.length ∧ Aside0 (Kd.R (Kd.int .u64) 22 w' w.heap.size (fun _ => True) v3 (spl (ws.take i))) ∧ Aside0 (Below w.heap.size w w')) (fun _ v15 _ => ws.length - (intOf v15).toNat)
  case atStart => exact ⟨0, rfl, Nat.zero_le _, ⟨Kd.R_nil _ _ _ _ _⟩, HB⟩
  case round =>
    clear HB
    obtain ⟨i, rfl, hi, HO, HB⟩ := hrel
    by_cases hlt : i < ws.length
    · obtain ⟨ad, e0, hc0⟩ := Kd.at_int HR.out (i : Int) (by omega) (by omega)
      have hc1 := (HB.out.cell (World.block_lt_of_cell? w _ hc0)).trans hc0
      have hx := HWS.out (ws.getD i 0) (by rw [List.getD_eq_getElem?_getD, List.getElem?_eq_getElem hlt]; simp)
      have HT : Aside0 (spl (ws.take (i + 1)) = spl (ws.take i) ++ [ws.getD i 0 % 4294967296, ws.getD i 0 / 4294967296]) := ⟨by
        rw [List.take_succ_eq_append_getElem hlt, spl_append, List.getD_eq_getElem?_getD, List.getElem?_eq_getElem hlt]
        rfl⟩
      unfold rd at hc1
      rw [Int.toNat_natCast] at hc1
      obtain ⟨x, hx2⟩ : ∃ x : Nat, ws.getD i 0 = x := Int.eq_ofNat_of_zero_le hx.1
      rw [hx2] at hc1 hx HT
      have hx1 : x < 18446744073709551616 := by omega
      subst e0
      clear hc0 hx2 hx
      have hand := and32 x hx1
      go_wp2_with (first | ((with_reducible refine gate_builtin (b := .append) (xs := #[.tmp 19, .tmp 24]) rfl ?_); at_builtin; go_must (refine Kd.R_append_rows (Kd.int .u64) (Rr := (Kd.int .u64).K wr) (w0 := w) w.heap.size rfl (.tmp 19) (.tmp 24) 78 22 (.int .u64 0) 8 rfl Try.underlying78 info22 rfl (by decide) (by omega) u3 (spl (ws.take i)) [(x : Int) % 4294967296, (x : Int) / 4294967296] (some ⟨wr.heap.size, 0, none⟩) 2 2 (fun _ => True) (fun _ => False) rfl rfl (Kd.R_alloc HO.out _) (rows_two (by go_simp) (by go_simp)) (fun _ _ h => h) (fun _ hk => hk.elim) (fun _ _ => trivial) (below_alloc HB.out _) (by have := HB.out.size; simp; omega) (by rw [spl_length, List.length_take]; omega) ?_); intro v1 w1 ho hb hg hat; have HO1 := Aside0.mk ho; have HB1 := Aside0.mk hb; clear ho hb hg hat HO HB))
      go_roundw
      case rel => exact ⟨i + 1, by go_num, by omega, ⟨by rw [HT.out]; exact HO1.out⟩, HB1⟩
      case measure => simp [intOf]; omega
    · obtain rfl : i = ws.length := by omega
      rw [List.take_length] at HO
      have HD0 : Aside0 (W32 (spl ws)) := ⟨spl_W32 ws HWS.out⟩
      have HV0 : Aside0 (v32 (spl ws) = (N : Int)) := ⟨(v32_spl ws).trans HN.out⟩
      have hsl := spl_length ws
      generalize spl ws = xs0 at HO HD0 HV0 hsl
      obtain ⟨A3, c3, e3, _, _⟩ := Kd.R_reads HO.out
      subst e3
      have hxl : xs0.length ≤ 2000000 := by omega
      clear hsl HWS
      go_wp2
      go_loopg [3, 6, 7] (N + xs0.length) (fun kq v3 v6 v7 w' => ∃ (xs bs : List Int) (M : Nat), v3 = .slice A3 xs.length c3 ∧ xs.length ≤ xs0.length ∧ Aside0 (M + xs.length ≤ kq) ∧ Aside0 (W32 xs) ∧ Aside0 (v32 xs = (M : Int)) ∧ Aside0 (bs ++ decs M = decs N) ∧ Aside0 (Kd.R (Kd.int .u64) 22 w' w.heap.size (fun _ => True) (.slice A3 xs.length c3) xs) ∧ Aside0 (Kd.R (Kd.int .u8) 5 w' w.heap.size (fun _ => True) v6 bs) ∧ Aside0 (Below w.heap.size w w'))
      case atStart => exact ⟨xs0, [], N, rfl, Nat.le_refl _, ⟨Nat.le_refl _⟩, HD0, HV0, ⟨rfl⟩, HO, ⟨Kd.R_nil _ _ _ _ _⟩, HB⟩
      case round =>
        clear HO HB HD0 HV0
        obtain ⟨xs, bs, M, rfl, hxx, HK, HD, HV, HX, HO, HP, HB⟩ := hrel
        by_cases hlt : 0 < xs.length
        · obtain ⟨g3, c4, eg, hg3, hg4, cells, hcells⟩ := Kd.R_form HO.out hlt
          injection eg with ea _ ec
          subst ea
          subst ec
          clear hg4
          have HCB := Aside0.mk hcells
          clear hcells
          go_wp2
          go_loopw [7, 8] (fun v7 v8 w' => ∃ (ys : List Int) (k n : Nat), v7 = .int .u64 n ∧ v8 = .int .i64 ((k : Int) - 1) ∧ k ≤ xs.length ∧ n < 1000000000 ∧ Aside0 (Divided xs ys k n) ∧ Aside0 (Kd.R (Kd.int .u64) 22 w' w.heap.size (fun _ => True) (.slice (some ⟨g3, 0, none⟩) xs.length c3) ys) ∧ Aside0 (∃ cells, w'.heap[g3]? = some (.cells cells 22 (0, 0))) ∧ Aside0 (Kd.R (Kd.int .u8) 5 w' w.heap.size (fun _ => True) u6 bs) ∧ Aside0 (Below w.heap.size w w')) (fun _ v8 _ => (intOf v8 + 1).toNat)
          case atStart => exact ⟨xs, xs.length, 0, rfl, rfl, Nat.le_refl _, by omega, ⟨Divided.start xs HD.out⟩, HO, ⟨_, HCB.out⟩, HP, HB⟩
          case round =>
            clear HO HCB HP HB
            obtain ⟨ys, k, n, rfl, rfl, hk, hn, HDV, HO, HCB, HP, HB⟩ := hrel
            cases k with
            | succ k =>
              obtain ⟨hx1, hf1⟩ := Kd.R_celln 0 HO.out (k : Int) (by omega) (by omega)
              have hlow := HDV.out.low k (by omega)
              have hxk := HD.out k
              obtain ⟨x, hx⟩ : ∃ x : Nat, xs.getD k 0 = x := Int.eq_ofNat_of_zero_le hxk.1
              unfold rdOf at hx1
              rw [Int.toNat_natCast] at hx1 hf1
              rw [hlow, hx] at hx1
              rw [hx] at hxk
              have hor := or32 n x (by omega) (by omega)
              have hst := HDV.out.step (by omega) HD.out hx
              obtain ⟨m, hm⟩ : ∃ m, n * 4294967296 + x = m := ⟨_, rfl⟩
              rw [hm] at hor hst
              have hmb : m < 4611686018427387904 := by omega
              have HP1 := Aside0.mk (Kd.R_putn HO.out (k : Int) ((m / 1000000000 : Nat) : Int))
              have HST := Aside0.mk hst
              obtain ⟨cells, hcells⟩ := HCB.out
              have HPP := Aside0.mk (Kd.R_set HP.out hcells (by intro q hq h; subst h; simp [Kd.int, Kd.scalar] at hq) k (.int .u64 ((m / 1000000000 : Nat) : Int)))
              have HC2 : Aside0 (∃ cells, (wr.setCell ⟨g3, k, none⟩ (.int .u64 ((m / 1000000000 : Nat) : Int))).heap[g3]? = some (.cells cells 22 (0, 0))) := ⟨_, blk_set hcells k _⟩
              have HB2 : Aside0 (Below w.heap.size w (wr.setCell ⟨g3, k, none⟩ (.int .u64 ((m / 1000000000 : Nat) : Int)))) := ⟨below_set HB.out hg3⟩
              rw [Int.toNat_natCast] at HP1
              have hv : ((k + 1 : Nat) : Int) - 1 = k := by omega
              rw [hv]
              clear hlow hxk hm hst hcells HO HCB HP HB hv
              go_wp2
              go_roundw
              case rel => exact ⟨_, k, m % 1000000000, by go_num, rfl, by omega, by omega, HST, HP1, HC2, HPP, HB2⟩
              case measure => simp [intOf]
            | zero =>
              have hquo := HDV.out.quo
              obtain ⟨q, hq⟩ : ∃ q : Nat, v32 ys = q := Int.eq_ofNat_of_zero_le (v32_nonneg ys HDV.out.w32)
              have hyl := HDV.out.len
              have HYW : Aside0 (W32 ys) := ⟨HDV.out.w32⟩
              have HQV : Aside0 (v32 ys = (q : Int)) := ⟨hq⟩
              rw [List.drop_zero, List.drop_zero, hq, HV.out] at hquo
              have hM : M = q * 1000000000 + n := by omega
              have HX1 : Aside0 (bs ++ remd 0 n q = decs N) := ⟨by rw [← HX.out, remd_start M, hM, show (q * 1000000000 + n) % 1000000000 = n by omega, show (q * 1000000000 + n) / 1000000000 = q by omega]⟩
              have HKM : Aside0 (q * 1000000000 + n + xs.length ≤ gk) := ⟨by have := HK.out; omega⟩
              clear hquo hq HDV HX HV HK HD hM
              go_wp2
              rw [← hyl] at HO
              obtain ⟨z0, hz0⟩ : ∃ z0, ys.length = z0 := ⟨_, rfl⟩
              go_loop [3] (fun v3 => ∃ (zs : List Int) (z : Nat), zs.length = z ∧ v3 = .slice (some ⟨g3, 0, none⟩) z c3 ∧ z ≤ xs.length ∧ Aside0 (W32 zs) ∧ Aside0 (v32 zs = (q : Int)) ∧ Aside0 (Kd.R (Kd.int .u64) 22 wr w.heap.size (fun _ => True) (.slice (some ⟨g3, 0, none⟩) z c3) zs)) (fun v3 => slen v3)
              case atStart => exact ⟨ys, ys.length, rfl, by rw [hyl], by omega, HYW, HQV, HO⟩
              case round =>
                clear HO HYW HQV hz0 hyl
                obtain ⟨zs, z, hzl, rfl, hzx, HZW, HZV, HZ⟩ := hrel
                by_cases hcont : 0 < z ∧ zs.getD (z - 1) 0 = 0
                · obtain ⟨hz1, hz2⟩ := hcont
                  obtain ⟨z, rfl⟩ : ∃ y, z = y + 1 := ⟨z - 1, by omega⟩
                  rw [Nat.add_sub_cancel] at hz2
                  obtain ⟨hx1, hf1⟩ := Kd.R_celln 0 HZ.out (z : Int) (by omega) (by omega)
                  unfold rdOf at hx1
                  rw [Int.toNat_natCast] at hx1 hf1
                  rw [hz2] at hx1
                  have hv : ((z + 1 : Nat) : Int) - 1 = z := by omega
                  have HT := Aside0.mk (Kd.R_take HZ.out (show z ≤ zs.length by omega))
                  have HTV : Aside0 (v32 (zs.take z) = (q : Int)) := ⟨by rw [v32_take zs z hzl hz2]; exact HZV.out⟩
                  go_wp2
                  go_round
                  case rel => exact ⟨_, z, by rw [List.length_take]; omega, rfl, by omega, ⟨HZW.out.take z⟩, HTV, HT⟩
                  case measure => simp [slen]
                · have HZQ : Aside0 (0 < z ↔ 0 < q) := by
                    refine ⟨⟨fun hz => ?_, fun hq => ?_⟩⟩
                    · have h1 := HZW.out (z - 1)
                      have h2 := v32_top zs HZW.out (z - 1) (by omega) (by have : ¬ zs.getD (z - 1) 0 = 0 := fun h => hcont ⟨hz, h⟩; omega)
                      have := HZV.out
                      omega
                    · rcases Nat.eq_zero_or_pos z with h | h
                      · subst h
                        have h1 : zs = [] := List.length_eq_zero_iff.1 hzl
                        have h2 := HZV.out
                        rw [h1] at h2
                        simp [v32] at h2
                        omega
                      · exact h
                  have hcase : z = 0 ∨ 0 < z := by omega
                  rcases hcase with hz1 | hz1
                  · subst hz1
                    go_wp2
                    go_loopw [6, 7, 9] (fun v6 v7 v9 w' => ∃ (ds : List Int) (y j : Nat), v7 = .int .u64 y ∧ v9 = .int .i64 j ∧ j ≤ 9 ∧ y < 10 ^ (9 - j) ∧ Aside0 (ds ++ remd j y q = decs N) ∧ Aside0 (Kd.R (Kd.int .u64) 22 w' w.heap.size (fun _ => True) (.slice (some ⟨g3, 0, none⟩) 0 c3) zs) ∧ Aside0 (Kd.R (Kd.int .u8) 5 w' w.heap.size (fun _ => True) v6 ds) ∧ Aside0 (Below w.heap.size w w')) (fun _ _ v9 _ => 9 - (intOf v9).toNat)
                    case atStart => exact ⟨bs, n, 0, rfl, rfl, by omega, by omega, HX1, HZ, HP, HB⟩
                    case round =>
                      clear HX1 HZ HP HB
                      obtain ⟨ds, y, j, rfl, rfl, hj, hy, HX, HZ, HP, HB⟩ := hrel
                      have hy9 : y < 1000000000 := Nat.lt_of_lt_of_le hy (Nat.pow_le_pow_right (by omega) (show 9 - j ≤ 9 by omega))
                      have hdl : ds.length < 1000000000 := by
                        have h := congrArg List.length HX.out
                        rw [List.length_append] at h
                        omega
                      by_cases hj9 : j < 9
                      · have hj9b : decide ((j : Int) < 9) = true := decide_eq_true (by omega)
                        by_cases hmore : 0 < y ∨ 0 < 0
                        · have hstep := remd_step j y q hj9 (hmore.imp_right (fun h => absurd h (by omega)))
                          have hy' : y / 10 < 10 ^ (9 - (j + 1)) := by
                            rw [show 9 - j = (9 - (j + 1)) + 1 by omega, Nat.pow_succ] at hy
                            omega
                          have HX2 : Aside0 ((ds ++ [((48 + y % 10 : Nat) : Int)]) ++ remd (j + 1) (y / 10) q = decs N) := ⟨by rw [← HX.out, hstep]; simp⟩
                          clear hstep hy
                          by_cases hy0 : 0 < y
                          · go_wp2_with (first | ((with_reducible refine gate_builtin (b := .append) (xs := #[.tmp 81, .tmp 86]) rfl ?_); at_builtin; go_must (refine Kd.R_append (Kd.int .u8) (w0 := w) w.heap.size rfl (.tmp 81) (.tmp 86) 70 5 (.int .u8 0) 1 rfl Try.underlying70 info5 rfl (by decide) (by omega) u6 ds (48 + (y : Int) % 10) [.int .u8 (48 + (y : Int) % 10)] (fun _ => True) (fun _ => False) rfl rfl rfl (fun _ hk => hk.elim) (fun _ _ => trivial) HP.out HB.out HB.out.size (by omega) ?_); intro v1 w1 ho hb hg hat; have HP1 := Aside0.mk ho; have HB1 := Aside0.mk hb; have HZ1 := Aside0.mk (Kd.R_over HZ.out HP.out (by intro t ht h; subst h; simp [Kd.int, Kd.scalar] at ht) hg); clear ho hb hg hat HP HB HZ))
                            go_roundw
                            case rel => exact ⟨_, y / 10, j + 1, by go_num, by go_num, by omega, hy', HX2, HZ1, HP1, HB1⟩
                            case measure => simp [intOf]; omega
                          · obtain rfl : y = 0 := by omega
                            exact absurd hmore (by omega)
                        · obtain rfl : y = 0 := by omega
                          have hq0 : q = 0 := by have := HZQ.out; omega
                          have HX3 : Aside0 (ds ++ decs q = decs N) := ⟨by rw [← HX.out, hq0, remd_end0]⟩
                          clear HX
                          go_wp2
                          go_roundg q
                          case rel => exact ⟨zs, ds, q, by rw [hzl], by omega, ⟨by omega⟩, HZW, HZV, HX3, by rw [hzl]; exact HZ, HP, HB⟩
                          case measure => have := HKM.out; omega
                      · obtain rfl : j = 9 := by omega
                        obtain rfl : y = 0 := by simpa using hy
                        have HX3 : Aside0 (ds ++ decs q = decs N) := ⟨by rw [← HX.out, remd_end9 0 q (by omega)]⟩
                        clear HX
                        go_wp2
                        go_roundg (q + 0)
                        case rel => exact ⟨zs, ds, q, by rw [hzl], by omega, ⟨by omega⟩, HZW, HZV, HX3, by rw [hzl]; exact HZ, HP, HB⟩
                        case measure => have := HKM.out; have := HZQ.out; omega
                  · have hz2 : ¬ zs.getD (z - 1) 0 = 0 := fun h => hcont ⟨hz1, h⟩
                    obtain ⟨hx1, hf1⟩ := Kd.R_celln 0 HZ.out ((z : Int) - 1) (by omega) (by omega)
                    have hx3 := HZW.out (z - 1)
                    obtain ⟨x, hx4⟩ : ∃ x : Nat, zs.getD (z - 1) 0 = x := Int.eq_ofNat_of_zero_le hx3.1
                    unfold rdOf at hx1
                    rw [show ((z : Int) - 1).toNat = z - 1 by omega] at hx1 hf1
                    rw [hx4] at hx1 hx3 hz2
                    have hzb : decide (0 < (z : Int)) = true := decide_eq_true (by omega)
                    go_wp2
                    clear hx1 hf1
                    go_loopw [6, 7, 9] (fun v6 v7 v9 w' => ∃ (ds : List Int) (y j : Nat), v7 = .int .u64 y ∧ v9 = .int .i64 j ∧ j ≤ 9 ∧ y < 10 ^ (9 - j) ∧ Aside0 (ds ++ remd j y q = decs N) ∧ Aside0 (Kd.R (Kd.int .u64) 22 w' w.heap.size (fun _ => True) (.slice (some ⟨g3, 0, none⟩) z c3) zs) ∧ Aside0 (Kd.R (Kd.int .u8) 5 w' w.heap.size (fun _ => True) v6 ds) ∧ Aside0 (Below w.heap.size w w')) (fun _ _ v9 _ => 9 - (intOf v9).toNat)
                    case atStart => exact ⟨bs, n, 0, rfl, rfl, by omega, by omega, HX1, HZ, HP, HB⟩
                    case round =>
                      clear HX1 HZ HP HB
                      obtain ⟨ds, y, j, rfl, rfl, hj, hy, HX, HZ, HP, HB⟩ := hrel
                      have hy9 : y < 1000000000 := Nat.lt_of_lt_of_le hy (Nat.pow_le_pow_right (by omega) (show 9 - j ≤ 9 by omega))
                      have hdl : ds.length < 1000000000 := by
                        have h := congrArg List.length HX.out
                        rw [List.length_append] at h
                        omega
                      by_cases hj9 : j < 9
                      · have hj9b : decide ((j : Int) < 9) = true := decide_eq_true (by omega)
                        by_cases hmore : 0 < y ∨ 0 < z
                        · have hstep := remd_step j y q hj9 (hmore.imp_right HZQ.out.1)
                          have hy' : y / 10 < 10 ^ (9 - (j + 1)) := by
                            rw [show 9 - j = (9 - (j + 1)) + 1 by omega, Nat.pow_succ] at hy
                            omega
                          have HX2 : Aside0 ((ds ++ [((48 + y % 10 : Nat) : Int)]) ++ remd (j + 1) (y / 10) q = decs N) := ⟨by rw [← HX.out, hstep]; simp⟩
                          clear hstep hy
                          by_cases hy0 : 0 < y
                          · go_wp2_with (first | ((with_reducible refine gate_builtin (b := .append) (xs := #[.tmp 81, .tmp 86]) rfl ?_); at_builtin; go_must (refine Kd.R_append (Kd.int .u8) (w0 := w) w.heap.size rfl (.tmp 81) (.tmp 86) 70 5 (.int .u8 0) 1 rfl Try.underlying70 info5 rfl (by decide) (by omega) u6 ds (48 + (y : Int) % 10) [.int .u8 (48 + (y : Int) % 10)] (fun _ => True) (fun _ => False) rfl rfl rfl (fun _ hk => hk.elim) (fun _ _ => trivial) HP.out HB.out HB.out.size (by omega) ?_); intro v1 w1 ho hb hg hat; have HP1 := Aside0.mk ho; have HB1 := Aside0.mk hb; have HZ1 := Aside0.mk (Kd.R_over HZ.out HP.out (by intro t ht h; subst h; simp [Kd.int, Kd.scalar] at ht) hg); clear ho hb hg hat HP HB HZ))
                            go_roundw
                            case rel => exact ⟨_, y / 10, j + 1, by go_num, by go_num, by omega, hy', HX2, HZ1, HP1, HB1⟩
                            case measure => simp [intOf]; omega
                          · obtain rfl : y = 0 := by omega
                            have hzp : 0 < z := by omega
                            have hzb : decide (0 < (z : Int)) = true := decide_eq_true (by omega)
                            go_wp2_with (first | ((with_reducible refine gate_builtin (b := .append) (xs := #[.tmp 81, .tmp 86]) rfl ?_); at_builtin; go_must (refine Kd.R_append (Kd.int .u8) (w0 := w) w.heap.size rfl (.tmp 81) (.tmp 86) 70 5 (.int .u8 0) 1 rfl Try.underlying70 info5 rfl (by decide) (by omega) u6 ds (48) [.int .u8 (48)] (fun _ => True) (fun _ => False) rfl rfl rfl (fun _ hk => hk.elim) (fun _ _ => trivial) HP.out HB.out HB.out.size (by omega) ?_); intro v1 w1 ho hb hg hat; have HP1 := Aside0.mk ho; have HB1 := Aside0.mk hb; have HZ1 := Aside0.mk (Kd.R_over HZ.out HP.out (by intro t ht h; subst h; simp [Kd.int, Kd.scalar] at ht) hg); clear ho hb hg hat HP HB HZ))
                            go_roundw
                            case rel => exact ⟨_, 0, j + 1, by go_num, by go_num, by omega, hy', HX2, HZ1, HP1, HB1⟩
                            case measure => simp [intOf]; omega
                        · obtain rfl : y = 0 := by omega
                          obtain rfl : z = 0 := by omega
                          have hq0 : q = 0 := by have := HZQ.out; omega
                          have HX3 : Aside0 (ds ++ decs q = decs N) := ⟨by rw [← HX.out, hq0, remd_end0]⟩
                          clear HX
                          go_wp2
                          go_roundg q
                          case rel => exact ⟨zs, ds, q, by rw [hzl], by omega, ⟨by omega⟩, HZW, HZV, HX3, by rw [hzl]; exact HZ, HP, HB⟩
                          case measure => have := HKM.out; omega
                      · obtain rfl : j = 9 := by omega
                        obtain rfl : y = 0 := by simpa using hy
                        have HX3 : Aside0 (ds ++ decs q = decs N) := ⟨by rw [← HX.out, remd_end9 0 q (by omega)]⟩
                        clear HX
                        go_wp2
                        go_roundg (q + z)
                        case rel => exact ⟨zs, ds, q, by rw [hzl], by omega, ⟨by omega⟩, HZW, HZV, HX3, by rw [hzl]; exact HZ, HP, HB⟩
                        case measure => have := HKM.out; have := HZQ.out; omega
        · have hx0 : xs.length = 0 := by omega
          have hx1 : xs = [] := List.length_eq_zero_iff.1 hx0
          have hM0 : M = 0 := by
            have h := HV.out
            rw [hx1] at h
            simp [v32] at h
            omega
          have HXN : Aside0 (bs = decs N) := ⟨by rw [← HX.out, hM0, decs_zero, List.append_nil]⟩
          clear HX HV HK HD
          subst hx1
          clear HO
          have h0 := (HB.out.cell (World.block_lt_of_cell? w _ hneg)).trans hneg
          have h1 := (HB.out.cell (World.block_lt_of_cell? w _ habs)).trans habs
          by_cases hN0 : N = 0
          · subst hN0
            have hb0 : bs = [] := by rw [HXN.out, decs_zero]
            subst hb0
            obtain ⟨A6, c6, e6, hc6, hr6⟩ := Kd.R_reads HP.out
            subst e6
            go_wp2
            go_ret
            exact ⟨rfl, HB.out⟩
          · have hwp : 0 < ws.length := by
              rcases Nat.eq_zero_or_pos ws.length with h | h
              · have h2 := List.length_eq_zero_iff.1 h
                have h3 := HN.out
                rw [h2] at h3
                simp [v64] at h3
                omega
              · exact h
            have HSIGN := Lib.hid (sign_any g neg ws A c wr h0 h1 hwp)
            have hbp : 0 < bs.length := by rw [HXN.out, decs_pos (by omega)]; simp
            have hbl : bs.length < 1000000000 := by rw [HXN.out]; exact hdl
            clear h0 h1
            obtain ⟨es, hes⟩ : ∃ es, bs ++ (if neg then [45] else []) = es := ⟨_, rfl⟩
            have HES := Aside0.mk hes
            have hxp : 0 < es.length := by rw [← hes, List.length_append]; omega
            have hb9 : es.length ≤ 1000000001 := by rw [← hes, List.length_append]; cases neg <;> simp <;> omega
            cases neg with
            | true =>
              rw [if_pos rfl] at hes
              have HEQ := Aside0.mk hes
              clear hes
              obtain ⟨A5, c5, e5, hc5, hr5⟩ := Kd.R_reads HP.out
              subst e5
              have hbb : decide ((bs.length : Int) = 0) = false := decide_eq_false (by omega)
              clear hr5
              go_wp2_with (first | (go_at_call 35; go_must (refine HSIGN.out.mono ?_); rintro e w' ⟨rfl, rfl⟩) | ((with_reducible refine gate_builtin (b := .append) (xs := #[.tmp 96, .tmp 97]) rfl ?_); at_builtin; go_must (refine Kd.R_append (Kd.int .u8) (w0 := w) w.heap.size rfl (.tmp 96) (.tmp 97) 70 5 (.int .u8 0) 1 rfl Try.underlying70 info5 rfl (by decide) (by omega) (.slice A5 bs.length c5) bs (45) [.int .u8 (45)] (fun _ => True) (fun _ => False) rfl rfl rfl (fun _ hk => hk.elim) (fun _ _ => trivial) HP.out HB.out HB.out.size (by omega) ?_); intro v1 w1 ho hb hg hat; rw [HEQ.out] at ho; go_must (obtain ⟨g6, c6, e6, hgb, hgl, _⟩ := Kd.R_form ho hxp); subst e6; have HP1 := Aside0.mk ho; have HB1 := Aside0.mk hb; clear ho hb hg hat HP HB hgl))
              go_loopw [10, 11] (fun v7 v8 w' => ∃ (ys : List Int) (i j : Nat), v7 = .int .i64 i ∧ v8 = .int .i64 j ∧ Aside0 (i + j + 1 = es.length) ∧ i ≤ j + 1 ∧ i ≤ es.length ∧ j < es.length ∧ Aside0 (Turned es ys i) ∧ Aside0 (Kd.R (Kd.int .u8) 5 w' w.heap.size (fun _ => True) (.slice (some ⟨g6, 0, none⟩) es.length c6) ys) ∧ Aside0 (Below w.heap.size w w')) (fun _ v8 _ => (intOf v8).toNat)
              case atStart => exact ⟨es, 0, es.length - 1, rfl, by go_num, ⟨by omega⟩, by omega, by omega, by omega, ⟨Turned.start es⟩, HP1, HB1⟩
              case round =>
                clear HP1 HB1
                obtain ⟨ys, i, j, rfl, rfl, HS, hij, hil, hjl, HT, HO, HB⟩ := hrel
                have hyl := HT.out.len
                by_cases hlt : i < j
                · obtain ⟨hx1, hf1⟩ := Kd.R_celln 0 HO.out (i : Int) (by omega) (by omega)
                  obtain ⟨hx2, hf2⟩ := Kd.R_celln 0 HO.out (j : Int) (by omega) (by omega)
                  have HP1 := Kd.R_putn HO.out (i : Int) (ys.getD j 0)
                  have HP2 := Kd.R_putn HP1 (j : Int) (ys.getD i 0)
                  have HT2 := HT.out.step (by have := HS.out; omega)
                  rw [show es.length - 1 - i = j by have := HS.out; omega] at HT2
                  unfold rdOf at hx1 hx2
                  simp only [Int.toNat_natCast] at hx1 hx2 hf1 hf2 HP2
                  obtain ⟨x1, hx1'⟩ : ∃ x1, ys.getD i 0 = x1 := ⟨_, rfl⟩
                  obtain ⟨x2, hx2'⟩ : ∃ x2, ys.getD j 0 = x2 := ⟨_, rfl⟩
                  rw [hx1'] at hx1 HP2 HT2
                  rw [hx2'] at hx2 HP2 HT2
                  have HP3 := Aside0.mk HP2
                  have HT3 := Aside0.mk HT2
                  clear HP1 HP2 HT2 hx1' hx2' HT HO hyl
                  go_wp2
                  go_region
                  go_wp2
                  go_roundw
                  case rel => exact ⟨_, i + 1, j - 1, by go_num, by go_num, ⟨by have := HS.out; omega⟩, by omega, by omega, by omega, HT3, ⟨Kd.R_drew HP3.out⟩, ⟨below_drew (below_set (below_set HB.out hgb) hgb)⟩⟩
                  case measure => simp [intOf]; omega
                · have hd : ys = es.reverse := HT.out.done (by have := HS.out; omega)
                  have hcv := own_string (P := Try.prog) Try.underlying70 Try.underlying5 Try.underlying9 (Kd.own_of_R HO.out)
                  have ht : strOfNums ys = textZ true N := by
                    unfold textZ
                    rw [if_neg (by omega), hd, ← HES.out, HXN.out]
                    simp
                  rw [ht] at hcv
                  clear hd ht
                  go_wp2
                  go_ret
                  exact ⟨rfl, HB.out⟩
            | false =>
              rw [if_neg (by decide), List.append_nil] at hes
              subst hes
              clear hbp hbl
              have hbb : decide ((bs.length : Int) = 0) = false := decide_eq_false (by omega)
              obtain ⟨g6, c6, e6, hgb, hgl, _⟩ := Kd.R_form HP.out hxp
              subst e6
              clear hgl
              have HP1 := Aside0.mk HP.out
              have HB1 := Aside0.mk HB.out
              clear HP HB
              go_wp2_with (go_at_call 35; go_must (refine HSIGN.out.mono ?_); rintro e w' ⟨rfl, rfl⟩)
              go_loopw [10, 11] (fun v7 v8 w' => ∃ (ys : List Int) (i j : Nat), v7 = .int .i64 i ∧ v8 = .int .i64 j ∧ Aside0 (i + j + 1 = bs.length) ∧ i ≤ j + 1 ∧ i ≤ bs.length ∧ j < bs.length ∧ Aside0 (Turned bs ys i) ∧ Aside0 (Kd.R (Kd.int .u8) 5 w' w.heap.size (fun _ => True) (.slice (some ⟨g6, 0, none⟩) bs.length c6) ys) ∧ Aside0 (Below w.heap.size w w')) (fun _ v8 _ => (intOf v8).toNat)
              case atStart => exact ⟨bs, 0, bs.length - 1, rfl, by go_num, ⟨by omega⟩, by omega, by omega, by omega, ⟨Turned.start bs⟩, HP1, HB1⟩
              case round =>
                clear HP1 HB1
                obtain ⟨ys, i, j, rfl, rfl, HS, hij, hil, hjl, HT, HO, HB⟩ := hrel
                have hyl := HT.out.len
                by_cases hlt : i < j
                · obtain ⟨hx1, hf1⟩ := Kd.R_celln 0 HO.out (i : Int) (by omega) (by omega)
                  obtain ⟨hx2, hf2⟩ := Kd.R_celln 0 HO.out (j : Int) (by omega) (by omega)
                  have HP1 := Kd.R_putn HO.out (i : Int) (ys.getD j 0)
                  have HP2 := Kd.R_putn HP1 (j : Int) (ys.getD i 0)
                  have HT2 := HT.out.step (by have := HS.out; omega)
                  rw [show bs.length - 1 - i = j by have := HS.out; omega] at HT2
                  unfold rdOf at hx1 hx2
                  simp only [Int.toNat_natCast] at hx1 hx2 hf1 hf2 HP2
                  obtain ⟨x1, hx1'⟩ : ∃ x1, ys.getD i 0 = x1 := ⟨_, rfl⟩
                  obtain ⟨x2, hx2'⟩ : ∃ x2, ys.getD j 0 = x2 := ⟨_, rfl⟩
                  rw [hx1'] at hx1 HP2 HT2
                  rw [hx2'] at hx2 HP2 HT2
                  have HP3 := Aside0.mk HP2
                  have HT3 := Aside0.mk HT2
                  clear HP1 HP2 HT2 hx1' hx2' HT HO hyl
                  go_wp2
                  go_region
                  go_wp2
                  go_roundw
                  case rel => exact ⟨_, i + 1, j - 1, by go_num, by go_num, ⟨by have := HS.out; omega⟩, by omega, by omega, by omega, HT3, ⟨Kd.R_drew HP3.out⟩, ⟨below_drew (below_set (below_set HB.out hgb) hgb)⟩⟩
                  case measure => simp [intOf]; omega
                · have hd : ys = bs.reverse := HT.out.done (by have := HS.out; omega)
                  have hcv := own_string (P := Try.prog) Try.underlying70 Try.underlying5 Try.underlying9 (Kd.own_of_R HO.out)
                  have ht : strOfNums ys = textZ false N := by
                    unfold textZ
                    rw [if_neg (by omega), hd, HXN.out]
                    simp
                  rw [ht] at hcv
                  clear hd ht
                  go_wp2
                  go_ret
                  exact ⟨rfl, HB.out⟩
end Go.Proofs.Ythkmgjkajllemaa.Big

/- Plain facts on how decimal digits become words of 32 and of 64 bits; no program is in sight. -/
namespace Go.Proofs.Ythkmgjkajllemaa.Wsum
open Go.RowKit Go.Proofs.Ythkmgjkajllemaa.Num Go.Proofs.Ythkmgjkajllemaa.Big
set_option linter.unusedVariables false
set_option linter.unusedSimpArgs false

theorem v32_append (l r : List Int) : v32 (l ++ r) = v32 l + 4294967296 ^ l.length * v32 r := by
  induction l with
  | nil => simp [v32]
  | cons x l ih =>
    rw [List.cons_append, v32, v32, ih, List.length_cons, Int.pow_succ, Int.mul_add, Int.add_assoc]
    congr 2
    rw [Int.mul_comm (4294967296 ^ l.length) 4294967296, Int.mul_assoc]
theorem v32_one (l : List Int) (x : Int) : v32 (l ++ [x]) = v32 l + 4294967296 ^ l.length * x := by
  rw [v32_append]; simp [v32]
theorem v32_take_succ (l : List Int) (k : Nat) (h : k < l.length) : v32 (l.take (k + 1)) = v32 (l.take k) + 4294967296 ^ k * l.getD k 0 := by
  rw [List.take_succ_eq_append_getElem h, v32_one, List.length_take, Nat.min_eq_left (by omega), List.getD_eq_getElem?_getD, List.getElem?_eq_getElem h]
  rfl
theorem v64_append (l r : List Int) : v64 (l ++ r) = v64 l + 18446744073709551616 ^ l.length * v64 r := by
  induction l with
  | nil => simp [v64]
  | cons x l ih =>
    rw [List.cons_append, v64, v64, ih, List.length_cons, Int.pow_succ, Int.mul_add, Int.add_assoc]
    congr 2
    rw [Int.mul_comm (18446744073709551616 ^ l.length) 18446744073709551616, Int.mul_assoc]

/-- How far the words are multiplied by a scale, an amount added: n is carried. -/
structure Muled (xs ys : List Int) (k sc n0 n : Nat) : Prop where
  len : ys.length = xs.length
  rest : ∀ i, k ≤ i → ys.getD i 0 = xs.getD i 0
  val : v32 (ys.take k) + 4294967296 ^ k * (n : Int) = v32 (xs.take k) * sc + n0
  left : n < sc
  w32 : W32 ys
theorem Muled.start (xs : List Int) (h : W32 xs) (sc n0 : Nat) (hn : n0 < sc) : Muled xs xs 0 sc n0 n0 :=
  ⟨rfl, fun _ _ => rfl, by simp [v32], hn, h⟩
theorem Muled.step {xs ys : List Int} {k sc n0 n : Nat} (h : Muled xs ys k sc n0 n) (hk : k < xs.length) (hx : W32 xs) (hsc : sc ≤ 1000000000) {x : Nat} (he : xs.getD k 0 = x) :
    Muled xs (ys.set k (((n + x * sc) % 4294967296 : Nat) : Int)) (k + 1) sc n0 ((n + x * sc) / 4294967296) := by
  have hl := h.len
  have hn := h.left
  have hxk := hx k
  rw [he] at hxk
  have hx1 : x < 4294967296 := by omega
  refine ⟨by simp [hl], fun i hi => ?_, ?_, ?_, fun i => ?_⟩
  · rw [getD_set _ _ _ _ (by omega), if_neg (by omega)]
    exact h.rest i (by omega)
  · rw [v32_take_succ _ k (by simp [hl]; exact hk), v32_take_succ xs k hk, he, getD_set _ _ _ _ (by omega), if_pos rfl]
    have e : (ys.set k (((n + x * sc) % 4294967296 : Nat) : Int)).take k = ys.take k := by
      rw [List.take_set, List.set_eq_of_length_le (by simp; omega)]
    rw [e]
    have hv := h.val
    have hm : (((n + x * sc) % 4294967296 : Nat) : Int) + 4294967296 * (((n + x * sc) / 4294967296 : Nat) : Int) = (n : Int) + (x : Int) * (sc : Int) := by
      rw [← Int.natCast_mul]
      generalize x * sc = m
      omega
    generalize v32 (ys.take k) = a at *
    generalize v32 (xs.take k) = b at *
    generalize (((n + x * sc) % 4294967296 : Nat) : Int) = r at *
    generalize (((n + x * sc) / 4294967296 : Nat) : Int) = q at *
    rw [Int.pow_succ]
    generalize (4294967296 : Int) ^ k = P at *
    calc a + P * r + P * 4294967296 * q = a + P * (r + 4294967296 * q) := by rw [Int.mul_add, Int.mul_assoc, Int.add_assoc]
      _ = a + P * (n + x * sc) := by rw [hm]
      _ = (a + P * n) + P * (x * sc) := by rw [Int.mul_add, Int.add_assoc]
      _ = b * sc + n0 + P * (x * sc) := by rw [hv]
      _ = (b + P * x) * sc + n0 := by rw [Int.add_mul, Int.mul_assoc, Int.add_right_comm]
  · have h1 : x * sc ≤ 4294967295 * sc := Nat.mul_le_mul_right _ (by omega)
    omega
  · rw [getD_set _ _ _ _ (by omega)]
    split
    · omega
    · exact h.w32 i
theorem Muled.done {xs ys : List Int} {sc n0 n : Nat} (h : Muled xs ys xs.length sc n0 n) : v32 ys + 4294967296 ^ xs.length * (n : Int) = v32 xs * sc + n0 := by
  have hv := h.val
  have hl := h.len
  rw [List.take_of_length_le (by omega), List.take_of_length_le (by omega)] at hv
  exact hv

/-- What stands ahead of a digit's place, in two steps. -/
theorem pfx_join (N L st i : Nat) (h1 : st ≤ i) (h2 : i ≤ L) : N / 10 ^ (L - i) = N / 10 ^ (L - st) * 10 ^ (i - st) + N / 10 ^ (L - i) % 10 ^ (i - st) := by
  have e : N / 10 ^ (L - st) = N / 10 ^ (L - i) / 10 ^ (i - st) := by
    rw [Nat.div_div_eq_div_mul, ← Nat.pow_add]
    congr 2
    omega
  rw [e]
  have := Nat.div_add_mod (N / 10 ^ (L - i)) (10 ^ (i - st))
  rw [Nat.mul_comm] at this
  exact this.symm

/-- Words of 32 bits as words of 64. -/
def pack : List Int → List Int
  | [] => []
  | [x] => [x]
  | x :: y :: l => (x + 4294967296 * y) :: pack l
theorem v64_pack : ∀ l : List Int, v64 (pack l) = v32 l
  | [] => rfl
  | [x] => by simp [pack, v64, v32]
  | x :: y :: l => by simp only [pack, v64, v32, v64_pack l]; omega
theorem pack_length : ∀ l : List Int, (pack l).length = (l.length + 1) / 2
  | [] => rfl
  | [x] => by simp [pack]
  | x :: y :: l => by simp only [pack, List.length_cons, pack_length l]; omega
theorem pack_even : ∀ (l : List Int) (x : Int) (m : Nat), l.length = 2 * m → pack (l ++ [x]) = pack l ++ [x]
  | [], x, m, h => rfl
  | [y], x, m, h => by simp at h; omega
  | y :: z :: l, x, 0, h => by simp at h
  | y :: z :: l, x, m + 1, h => by
    have := pack_even l x m (by simp at h; omega)
    simp only [List.cons_append, pack, this]
theorem pack_odd : ∀ (l : List Int) (x : Int) (m : Nat), l.length = 2 * m + 1 → pack (l ++ [x]) = (pack l).set m ((pack l).getD m 0 + 4294967296 * x) ∧ (pack l).getD m 0 = l.getD (2 * m) 0
  | [], x, m, h => by simp at h
  | [y], x, 0, h => by simp [pack]
  | [y], x, m + 1, h => by simp at h
  | y :: z :: l, x, 0, h => by simp at h
  | y :: z :: l, x, m + 1, h => by
    have := pack_odd l x m (by simp at h; omega)
    refine ⟨?_, ?_⟩
    · simp only [List.cons_append, pack, this.1, List.set_cons_succ, List.getD_cons_succ]
    · show (pack l).getD m 0 = _
      rw [this.2, show 2 * (m + 1) = 2 * m + 1 + 1 by omega]
      rfl
theorem pack_in : ∀ (l : List Int), W32 l → ∀ x ∈ pack l, 0 ≤ x ∧ x < 18446744073709551616
  | [], _, x, hx => by simp [pack] at hx
  | [y], h, x, hx => by
    have := h 0
    simp [pack] at hx
    simp at this
    omega
  | y :: z :: l, h, x, hx => by
    have h0 := h 0
    have h1 := h 1
    simp at h0 h1
    simp only [pack, List.mem_cons] at hx
    rcases hx with rfl | hx
    · omega
    · exact pack_in l (fun k => by have := h (k + 2); simpa using this) x hx
theorem W32_nil : W32 [] := fun k => by simp
theorem W32_snoc {l : List Int} (h : W32 l) (x : Int) (h0 : 0 ≤ x) (h1 : x < 4294967296) : W32 (l ++ [x]) := by
  intro k
  rw [List.getD_eq_getElem?_getD]
  by_cases hk : k < l.length
  · rw [List.getElem?_append_left hk]
    have := h k
    rwa [List.getD_eq_getElem?_getD] at this
  · rw [List.getElem?_append_right (by omega)]
    rcases Nat.eq_zero_or_pos (k - l.length) with h2 | h2
    · rw [h2]; simp; omega
    · rw [List.getElem?_eq_none (by simp; omega)]; simp
/-- The higher word laid beside the lower one. -/
theorem or64 (y x : Nat) (hy : y < 4294967296) (hx : x < 4294967296) : bits .or .u64 (y : Int) ((x : Int) * 4294967296) = ((y + 4294967296 * x : Nat) : Int) := by
  rw [show (x : Int) * 4294967296 = ((x * 4294967296 : Nat) : Int) by omega, u64_or_nat y (x * 4294967296) (by omega) (by omega)]
  rw [Nat.or_comm, show x * 4294967296 = x <<< 32 by rw [Nat.shiftLeft_eq], ← Nat.shiftLeft_add_eq_or_of_lt (by omega : y < 2 ^ 32), Nat.shiftLeft_eq]
  omega
theorem v64_take (l : List Int) (z : Nat) (hl : l.length = z + 1) (h0 : l.getD z 0 = 0) : v64 (l.take z) = v64 l := by
  have e : l = l.take z ++ [0] := by
    have h1 := List.take_append_drop z l
    rw [List.drop_eq_getElem_cons (by omega : z < l.length), List.drop_eq_nil_of_le (by omega : l.length ≤ z + 1)] at h1
    rw [List.getD_eq_getElem?_getD, List.getElem?_eq_getElem (by omega : z < l.length), Option.getD_some] at h0
    rw [h0] at h1
    exact h1.symm
  conv => rhs; rw [e]
  rw [v64_append]
  simp [v64]
theorem v64_nonneg (l : List Int) (h : ∀ x ∈ l, 0 ≤ x ∧ x < 18446744073709551616) : 0 ≤ v64 l := by
  induction l with
  | nil => exact Int.le_refl _
  | cons x l ih =>
    have := h x (by simp)
    have := ih (fun y hy => h y (by simp [hy]))
    simp only [v64]
    omega
end Go.Proofs.Ythkmgjkajllemaa.Wsum

/- Blocks of two or three cells that a call has made, behind other calls. -/
namespace Go.Proofs.Ythkmgjkajllemaa.Mem
open Go.RowKit
set_option linter.unusedVariables false
set_option linter.unusedSimpArgs false

theorem below_one {w w1 : World} (o : Obj) (h : Below (w.alloc o).heap.size (w.alloc o) w1) : Below w.heap.size w w1 :=
  ((Below.refl _ _).alloc (Nat.le_refl _) o).trans (h.mono (by simp))
theorem below_at {w w1 : World} (h : Below w.heap.size w w1) (o : Obj) : Below w.heap.size w (w1.alloc o) := h.alloc h.size o
theorem below_by {w w1 w2 : World} (h : Below w.heap.size w w1) (k : Below w1.heap.size w1 w2) : Below w.heap.size w w2 := h.trans (k.mono h.size)

/-- A block of three cells that may be written. -/
structure C3 (w : World) (g : Nat) (a b c : Value) : Prop where
  c0 : w.cell? ⟨g, 0, none⟩ = some a
  c1 : w.cell? ⟨g, 1, none⟩ = some b
  c2 : w.cell? ⟨g, 2, none⟩ = some c
  f0 : w.frozen? ⟨g, 0, none⟩ = false
  f1 : w.frozen? ⟨g, 1, none⟩ = false
  f2 : w.frozen? ⟨g, 2, none⟩ = false
  lt : g < w.heap.size
theorem C3.below {w w1 : World} {g : Nat} {a b c : Value} (h : C3 w g a b c) (hb : Below w.heap.size w w1) : C3 w1 g a b c :=
  ⟨(hb.cell h.lt).trans h.c0, (hb.cell h.lt).trans h.c1, (hb.cell h.lt).trans h.c2, (hb.frozen h.lt).trans h.f0, (hb.frozen h.lt).trans h.f1, (hb.frozen h.lt).trans h.f2, Nat.lt_of_lt_of_le h.lt hb.size⟩
theorem C3.new (w : World) (a b c : Value) (T : TypeId) : C3 (w.alloc (.cells #[a, b, c] T)) w.heap.size a b c :=
  ⟨by simp, by simp, by simp, by simp, by simp, by simp, by simp⟩
/-- What a block of three cells that was just made tells behind a call. -/
theorem made3 {w w1 : World} {a b c : Value} {T : TypeId} (h : Below (w.alloc (.cells #[a, b, c] T)).heap.size (w.alloc (.cells #[a, b, c] T)) w1) :
    C3 w1 w.heap.size a b c ∧ Below w.heap.size w w1 := ⟨(C3.new w a b c T).below h, below_one _ h⟩

/-- A block of two cells that may be written. -/
structure C2 (w : World) (g : Nat) (a b : Value) : Prop where
  c0 : w.cell? ⟨g, 0, none⟩ = some a
  c1 : w.cell? ⟨g, 1, none⟩ = some b
  f0 : w.frozen? ⟨g, 0, none⟩ = false
  f1 : w.frozen? ⟨g, 1, none⟩ = false
  lt : g < w.heap.size
theorem C2.below {w w1 : World} {g : Nat} {a b : Value} (h : C2 w g a b) (hb : Below w.heap.size w w1) : C2 w1 g a b :=
  ⟨(hb.cell h.lt).trans h.c0, (hb.cell h.lt).trans h.c1, (hb.frozen h.lt).trans h.f0, (hb.frozen h.lt).trans h.f1, Nat.lt_of_lt_of_le h.lt hb.size⟩
theorem C2.new (w : World) (a b : Value) (T : TypeId) : C2 (w.alloc (.cells #[a, b] T)) w.heap.size a b :=
  ⟨by simp, by simp, by simp, by simp, by simp⟩
theorem made2 {w w1 : World} {a b : Value} {T : TypeId} (h : Below (w.alloc (.cells #[a, b] T)).heap.size (w.alloc (.cells #[a, b] T)) w1) :
    C2 w1 w.heap.size a b ∧ Below w.heap.size w w1 := ⟨(C2.new w a b T).below h, below_one _ h⟩

/-- Cells of elder blocks stand when one is made. -/
theorem old_cell {w : World} {b : Nat} {v : Value} (h : w.cell? ⟨b, 0, none⟩ = some v) (hl : b < w.heap.size) (o : Obj) : (w.alloc o).cell? ⟨b, 0, none⟩ = some v :=
  (((Below.refl w.heap.size w).alloc (Nat.le_refl _) o).cell (p := ⟨b, 0, none⟩) hl).trans h

end Go.Proofs.Ythkmgjkajllemaa.Mem

/- Natural numbers of the reference in memory: slices of limbs in blocks that the call has made. -/
namespace Go.Proofs.Ythkmgjkajllemaa.Nats
open Go.RowKit Go.Proofs.YthkmgjkajllemaaW.PrintWords Go.Proofs.YthkmgjkajllemaaW.PrintLast Go.Proofs.YthkmgjkajllemaaW.PrintMore Go.Proofs.Ythkmgjkajllemaa.Num Go.Proofs.Ythkmgjkajllemaa.Str
set_option linter.unusedVariables false
set_option linter.unusedSimpArgs false

/-- A natural number in memory, in blocks from b on. -/
def IsNew (w : World) (b : Nat) (v : Value) (n : Nat) : Prop := Kd.V (Kd.int .u32) 54 w b (fun k => b ≤ k) v (limbs n)
theorem IsNew.below {w w1 : World} {b : Nat} {v : Value} {n : Nat} (h : IsNew w b v n) (hb : Below w.heap.size w w1) : IsNew w1 b v n := Kd.V_below h hb
theorem IsNew.lower {w : World} {b b' : Nat} {v : Value} {n : Nat} (h : IsNew w b v n) (hb : b' ≤ b) : IsNew w b' v n := Kd.V_mono (Kd.V_lower h hb) (fun k hk => Nat.le_trans hb hk)
theorem IsNew.set {w : World} {b : Nat} {v : Value} {n : Nat} (h : IsNew w b v n) {p : Addr} (hp : p.block < b) (u : Value) : IsNew (w.setCell p u) b v n :=
  Kd.V_far h (fun k hk e => by have : b ≤ k := hk; omega) u
theorem IsNew.drew {w : World} {b : Nat} {v : Value} {n : Nat} (h : IsNew w b v n) : IsNew w.drew b v n := Kd.V_drew h
theorem IsNew.alloc {w : World} {b : Nat} {v : Value} {n : Nat} (h : IsNew w b v n) (o : Obj) : IsNew (w.alloc o) b v n := Kd.V_alloc h o
theorem IsNew.slice {w : World} {b : Nat} {v : Value} {n : Nat} (h : IsNew w b v n) : ∃ A c, v = .slice A (limbs n).length c := Kd.V_slice h
theorem IsNew.isNat {w : World} {b : Nat} {v : Value} {n : Nat} (h : IsNew w b v n) : IsNat w v n := by
  obtain ⟨A, c, rfl⟩ := Kd.V_slice h
  obtain ⟨_, hc, hr⟩ := Kd.V_reads' h
  exact ⟨A, c, rfl, hc, hr⟩
theorem V_of_R {α : Type} {d : Kd α} {e base : Nat} {ok : Nat → Prop} {w : World} {v : Value} {xs : List α} (h : d.R e w base ok v xs) : Kd.V d e w base (fun k => base ≤ k) v xs := by
  obtain ⟨A, c, rfl, hl, _⟩ := Kd.R_reads h
  refine ⟨A, c, rfl, hl, fun W' hW => ?_⟩
  have h1 := Kd.R_mono (Kd.R_bound h) (ok' := fun k => base ≤ k) (fun k hk => hk.2.1)
  have h2 : d.R e W' base (fun k => base ≤ k) (.slice A xs.length c) xs := Kd.R_step h1 (fun k hk hlt => hW k hk hlt)
  obtain ⟨A', c', e', _, hr⟩ := Kd.R_reads h2
  injection e' with ha _ _
  rw [ha]
  exact hr

/-- NatFrom, in blocks of its own. -/
theorem natFrom_new (x : Nat) (w : World) (h : x < 18446744073709551616) :
    Calls Try.prog 9 #[.int .u64 x] w fun e w' => ∃ v, e = .returned v ∧ IsNew w' w.heap.size v x ∧ Below w.heap.size w w' := by
  have e : PNatFrom.spec_NatFrom.f 4 (x : Int) = some (limbs x) := by
    unfold PNatFrom.spec_NatFrom.f
    rw [natFrom_go 3 4 x [] (by omega) (by omega) h (by simp)]
    rfl
  refine (PNatFrom.spec_NatFrom.calls 4 x _ w e).mono ?_
  rintro e w' ⟨v, rfl, hr, hb⟩
  exact ⟨v, rfl, V_of_R hr, hb⟩
end Go.Proofs.Ythkmgjkajllemaa.Nats

/- The reference's whole numbers, and the thin package's big integers of one word. -/
namespace Go.Proofs.Ythkmgjkajllemaa.DecMake
open Go.RowKit Go.Proofs.YthkmgjkajllemaaW.PrintWords Go.Proofs.Ythkmgjkajllemaa.Num Go.Proofs.Ythkmgjkajllemaa.Str Go.Proofs.Ythkmgjkajllemaa.Nats Go.Proofs.Ythkmgjkajllemaa.Mem Go.Proofs.Ythkmgjkajllemaa.Big
set_option linter.unusedVariables false
set_option linter.unusedSimpArgs false

/-- The limbs of a value. -/
theorem wholeOf_any (v : Int) (w : World) (h1 : -9223372036854775808 ≤ v) (h2 : v ≤ 9223372036854775807) :
    Calls Try.prog 8 #[.int .i64 v] w fun e w' => ∃ u, e = .returned (.agg #[.bool (decide (v < 0)), u]) ∧ IsNew w' w.heap.size u v.natAbs ∧ Below w.heap.size w w' := by
  have HN : Hid (∀ W, Calls Try.prog 9 #[.int .u64 (v.natAbs : Nat)] W fun e w' => ∃ u, e = .returned u ∧ IsNew w' W.heap.size u v.natAbs ∧ Below W.heap.size W w') := fun W => natFrom_new v.natAbs W (by omega)
  by_cases h0 : v < 0
  · have hd : decide (v < 0) = true := decide_eq_true h0
    rw [hd]
    have hv1 : v + 1 ≤ 0 := by omega
    have hv3 : 0 ≤ -(v + 1) := by omega
    have HV := Lib.hid (show -(v + 1) + 1 = ((v.natAbs : Nat) : Int) by omega)
    generalize v.natAbs = n at HN HV ⊢
    clear h0
    go_enter Try.func8, Try.ntmps8
    go_wp2_with fail
    rw [HV.out]
    refine (HN.out _).mono ?_
    rintro e w1 ⟨u, rfl, hn, hb⟩
    obtain ⟨A, c, rfl⟩ := hn.slice
    obtain ⟨⟨c0, c1, f0, f1, hz⟩, hb1⟩ := made2 hb
    have HB := Lib.hid hb1
    have HI := Lib.hid hn
    clear hb hb1 hn
    go_wp2
    exact bodyPost_ret (v := .agg #[.bool true, .slice A (limbs n).length c]) (by simp [results, Try.results8, go_sem, c0, c1, f0, f1, hz]) rfl ⟨_, rfl, ((HI.out.set (by simp) _).set (by simp) _).lower (by simp), (HB.out.setCell (Nat.le_refl _) _).setCell (Nat.le_refl _) _⟩
  · have hd : decide (v < 0) = false := decide_eq_false h0
    rw [hd]
    obtain ⟨n, rfl⟩ := Int.eq_ofNat_of_zero_le (show 0 ≤ v by omega)
    rw [show ((n : Int).natAbs) = n by omega] at HN ⊢
    clear h0
    go_enter Try.func8, Try.ntmps8
    go_wp2_with fail
    refine (HN.out _).mono ?_
    rintro e w1 ⟨u, rfl, hn, hb⟩
    obtain ⟨A, c, rfl⟩ := hn.slice
    obtain ⟨⟨c0, c1, f0, f1, hz⟩, hb1⟩ := made2 hb
    have HB := Lib.hid hb1
    have HI := Lib.hid hn
    clear hb hb1 hn
    go_wp2
    exact bodyPost_ret (v := .agg #[.bool false, .slice A (limbs n).length c]) (by simp [results, Try.results8, go_sem, c0, c1, f0, f1, hz]) rfl ⟨_, rfl, ((HI.out.set (by simp) _).set (by simp) _).lower (by simp), (HB.out.setCell (Nat.le_refl _) _).setCell (Nat.le_refl _) _⟩


/-- The words of an amount of one word. -/
def ws1 (n : Nat) : List Int := if n = 0 then [] else [(n : Int)]
theorem v64_ws1 (n : Nat) : v64 (ws1 n) = n := by
  unfold ws1
  split
  · simp [v64, *]
  · simp [v64]
theorem ws1_length (n : Nat) : (ws1 n).length ≤ 1 := by
  unfold ws1
  split <;> simp

theorem C_one {k : IntKind} {w : World} {g : Nat} {x : Int} (h : w.cell? ⟨g, 0, none⟩ = some (.int k x)) : (Kd.int k).C w (some ⟨g, 0, none⟩) 1 [x] :=
  Kd.C_of_reads (enc := Value.int k) (d := (0 : Int)) ⟨rfl, by omega, fun _ => ⟨_, rfl, fun j hj => by
    match j, hj with
    | 0, _ => simpa [add_plain] using h⟩⟩
theorem C_none {k : IntKind} {w : World} (A : Option Addr) : (Kd.int k).C w A 0 [] :=
  Kd.C_of_reads (enc := Value.int k) (d := (0 : Int)) ⟨rfl, by omega, fun h => absurd h (by omega)⟩

/-- A big integer of one word, in blocks from b on. -/
structure Is1 (w : World) (b g : Nat) (neg : Bool) (n : Nat) : Prop where
  lo : b ≤ g
  lt : g < w.heap.size
  neg : w.cell? ⟨g, 0, none⟩ = some (.bool neg)
  abs : (n = 0 ∧ w.cell? ⟨g, 1, none⟩ = some (.slice none 0 0)) ∨ (0 < n ∧ ∃ k c, b ≤ k ∧ k < w.heap.size ∧ w.cell? ⟨g, 1, none⟩ = some (.slice (some ⟨k, 0, none⟩) 1 c) ∧ w.cell? ⟨k, 0, none⟩ = some (.int .u64 n) ∧ 1 ≤ c)
theorem Is1.below {w w1 : World} {b g : Nat} {neg : Bool} {n : Nat} (h : Is1 w b g neg n) (hb : Below w.heap.size w w1) : Is1 w1 b g neg n :=
  ⟨h.lo, Nat.lt_of_lt_of_le h.lt hb.size, (hb.cell h.lt).trans h.neg, h.abs.imp (fun h1 => ⟨h1.1, (hb.cell h.lt).trans h1.2⟩)
    (fun ⟨h0, k, c, h1, h2, h3, h4, h5⟩ => ⟨h0, k, c, h1, Nat.lt_of_lt_of_le h2 hb.size, (hb.cell h.lt).trans h3, (hb.cell h2).trans h4, h5⟩)⟩
theorem Is1.lower {w : World} {b b' g : Nat} {neg : Bool} {n : Nat} (h : Is1 w b g neg n) (hb : b' ≤ b) : Is1 w b' g neg n :=
  ⟨Nat.le_trans hb h.lo, h.lt, h.neg, h.abs.imp id (fun ⟨h0, k, c, h1, h2, h3, h4, h5⟩ => ⟨h0, k, c, Nat.le_trans hb h1, h2, h3, h4, h5⟩)⟩
theorem cell_far {w : World} {p q : Addr} {u : Value} (h : p.block ≠ q.block) : (w.setCell p u).cell? q = w.cell? q :=
  World.cell?_setCell_other _ _ _ _ (fun e => h (congrArg Addr.block e))
theorem Is1.set {w : World} {b g : Nat} {neg : Bool} {n : Nat} (h : Is1 w b g neg n) {p : Addr} (hp : p.block < b) (u : Value) : Is1 (w.setCell p u) b g neg n :=
  have hg : p.block ≠ g := by have := h.lo; omega
  ⟨h.lo, by simpa using h.lt, (cell_far hg).trans h.neg, h.abs.imp (fun h1 => ⟨h1.1, (cell_far hg).trans h1.2⟩)
    (fun ⟨h0, k, c, h1, h2, h3, h4, h5⟩ => ⟨h0, k, c, h1, by simpa using h2, (cell_far hg).trans h3, (cell_far (q := ⟨k, 0, none⟩) (by show p.block ≠ k; omega)).trans h4, h5⟩)⟩
theorem Is1.int {w : World} {b g : Nat} {neg : Bool} {n : Nat} (h : Is1 w b g neg n) : IsInt w g neg (ws1 n) := by
  rcases h.abs with ⟨rfl, h1⟩ | ⟨h0, k, c, _, _, h3, h4, h5⟩
  · exact ⟨h.neg, none, 0, h1, Nat.le_refl _, C_none _⟩
  · rw [show ws1 n = [(n : Int)] from if_neg (by omega)]
    exact ⟨h.neg, some ⟨k, 0, none⟩, c, h3, h5, C_one h4⟩

theorem newInt_any (x : Int) (w : World) (h1 : -9223372036854775808 ≤ x) (h2 : x ≤ 9223372036854775807) :
    Calls Try.prog 27 #[.int .i64 x] w fun e w' => ∃ g, e = .returned (.pointer (some ⟨g, 0, none⟩)) ∧ Is1 w' w.heap.size g (decide (x < 0)) x.natAbs ∧ Below w.heap.size w w' := by
  by_cases h0 : x = 0
  · subst h0
    go_enter Try.func27, Try.ntmps27
    go_wp2
    go_ret
    exact ⟨w.heap.size, rfl, ⟨Nat.le_refl _, by simp, by simp, .inl ⟨rfl, by simp⟩⟩, (Below.refl _ _).alloc (Nat.le_refl _) _⟩
  · by_cases hp : 0 < x
    · obtain ⟨n, rfl⟩ := Int.eq_ofNat_of_zero_le (show 0 ≤ x by omega)
      rw [show ((n : Int).natAbs) = n by omega]
      have hn : n ≠ 0 := by omega
      have hd : decide ((n : Int) < 0) = false := decide_eq_false (by omega)
      have hd1 : ((n : Int) == 0) = false := beq_eq_false_iff_ne.2 (by omega)
      have hd2 : decide ((n : Int) = 0) = false := decide_eq_false (by omega)
      rw [hd]
      have HP : Hid (0 < n) := Lib.hid (by omega)
      clear h0 hp hn
      go_enter Try.func27, Try.ntmps27
      go_wp2
      go_ret
      exact ⟨w.heap.size + 1, rfl, ⟨by omega, by simp, by simp, .inr ⟨HP.out, w.heap.size, 1, Nat.le_refl _, by simp; omega, by simp, by simp, Nat.le_refl _⟩⟩, ((Below.refl _ _).alloc (Nat.le_refl _) _).alloc (by simp) _⟩
    · have hn : x.natAbs ≠ 0 := by omega
      have hd : decide (x < 0) = true := decide_eq_true (by omega)
      have hd1 : (x == 0) = false := beq_eq_false_iff_ne.2 (by omega)
      have hd2 : decide (x = 0) = false := decide_eq_false (by omega)
      rw [hd]
      have HV := Lib.hid (show IntKind.u64.wrap (-(IntKind.u64.wrap x)) = ((x.natAbs : Nat) : Int) by simp [IntKind.wrap, IntKind.bits, IntKind.signed]; omega)
      have HP : Hid (0 < x.natAbs) := Lib.hid (by omega)
      clear hp hn
      generalize x.natAbs = n at HV HP ⊢
      go_enter Try.func27, Try.ntmps27
      go_wp2
      go_ret
      exact ⟨w.heap.size + 1, rfl, ⟨by omega, by simp, by simp, .inr ⟨HP.out, w.heap.size, 1, Nat.le_refl _, by simp; omega, by simp, by simp [HV.out], Nat.le_refl _⟩⟩, ((Below.refl _ _).alloc (Nat.le_refl _) _).alloc (by simp) _⟩

theorem info81 : (Try.prog.info? 81).map (fun i => (i.zero, i.size, i.bytes)) = some (some (.int .u64 0), 1, 8) := by kernel_rfl
/-- A new slice of one word. -/
structure Word1 (w w' : World) (k c n : Nat) : Prop where
  lo : w.heap.size ≤ k
  lt : k < w'.heap.size
  cell : w'.cell? ⟨k, 0, none⟩ = some (.int .u64 n)
  cap : 1 ≤ c
  below : Below w.heap.size w w'
set_option maxRecDepth 100000 in
/-- The words' slice of a nil one, and the setters by it. -/
theorem make1_any (w : World) :
    Calls Try.prog 48 #[.slice none 0 0, .int .i64 1] w fun e w' => ∃ k c, e = .returned (.slice (some ⟨k, 0, none⟩) 1 c) ∧ Word1 w w' k c 0 ∧ w'.frozen? ⟨k, 0, none⟩ = false := by
  go_enter Try.func48, Try.ntmps48
  go_wp2_with (first | ((with_reducible refine gate_dst (N := 14) rfl ?_); refine Kd.R_make (w0 := w) (Kd.int .u64) w.heap.size 81 rfl (N := 14) rfl 65 _ _ rfl 1 rfl rfl Try.underlying65 (.int .u64 0) 8 info81 rfl (by decide) (by omega) 0 (ok := fun _ => True) (okp := fun _ => True) rfl (fun _ hk => hk) trivial (by omega) (by decide) (Below.refl _ _) (Nat.le_refl _) ?_; intro v1 w1 ho hb hg hn; obtain ⟨k, c, e1, h1, h2, _⟩ := Kd.R_form ho (by simp); subst e1; have HO := Aside0.mk ho; have HB := Aside0.mk hb; clear ho hb hg hn))
  go_ret
  obtain ⟨hc, hf⟩ := Kd.R_celln 0 HO.out 0 (by omega) (by simp)
  obtain ⟨A, c', e', hc', _⟩ := Kd.R_reads HO.out
  injection e' with _ _ e3
  exact ⟨k, c, rfl, ⟨h1, h2, hc, by rw [e3]; exact hc', HB.out⟩, hf⟩
theorem setWord_zero (w : World) :
    Calls Try.prog 47 #[.slice none 0 0, .int .u64 0] w fun e w' => e = .returned (.slice none 0 0) ∧ w' = w := by
  go_enter Try.func47, Try.ntmps47
  go_wp2
  go_ret
  exact ⟨rfl, rfl⟩
theorem setWord_pos (n : Nat) (w : World) (h0 : 0 < n) :
    Calls Try.prog 47 #[.slice none 0 0, .int .u64 n] w fun e w' => ∃ k c, e = .returned (.slice (some ⟨k, 0, none⟩) 1 c) ∧ Word1 w w' k c n := by
  have hd1 : ((n : Int) == 0) = false := beq_eq_false_iff_ne.2 (by omega)
  have hd2 : decide ((n : Int) = 0) = false := decide_eq_false (by omega)
  have HM := Lib.hid (make1_any w)
  clear h0
  go_enter Try.func47, Try.ntmps47
  go_wp2_with (first | (go_at_call 48; go_must (refine HM.out.mono ?_); rintro e w1 ⟨k, c, rfl, ⟨h1, h2, hc, h3, hb⟩, hf⟩; have HB := Lib.hid hb; clear hb))
  go_ret
  exact ⟨k, c, rfl, ⟨h1, by simpa using h2, World.cell?_setCell_same _ _ _ hc, h3, HB.out.setCell h1 _⟩⟩
theorem setUint64_zero (w : World) :
    Calls Try.prog 38 #[.slice none 0 0, .int .u64 0] w fun e w' => e = .returned (.slice none 0 0) ∧ w' = w := by
  have HM := Lib.hid (setWord_zero w)
  go_enter Try.func38, Try.ntmps38
  go_wp2_with (first | (go_at_call 47; go_must (refine HM.out.mono ?_); rintro e w1 ⟨rfl, rfl⟩))
  go_ret
  exact ⟨rfl, rfl⟩
theorem setUint64_pos (n : Nat) (w : World) (h0 : 0 < n) :
    Calls Try.prog 38 #[.slice none 0 0, .int .u64 n] w fun e w' => ∃ k c, e = .returned (.slice (some ⟨k, 0, none⟩) 1 c) ∧ Word1 w w' k c n := by
  have HM := Lib.hid (setWord_pos n w h0)
  clear h0
  go_enter Try.func38, Try.ntmps38
  go_wp2_with (first | (go_at_call 47; go_must (refine HM.out.mono ?_); rintro e w1 ⟨k, c, rfl, h1⟩))
  go_ret
  exact ⟨k, c, rfl, h1⟩
theorem bigSet_any (n : Nat) (w : World) :
    Calls Try.prog 28 #[.pointer (some ⟨w.heap.size, 0, none⟩), .int .u64 n] (w.alloc (.cells #[.bool false, .slice none 0 0] 67)) fun e w' => e = .returned (.pointer (some ⟨w.heap.size, 0, none⟩)) ∧ Is1 w' w.heap.size w.heap.size false n ∧ Below w.heap.size w w' := by
  by_cases h0 : n = 0
  · subst h0
    have HM := Lib.hid (setUint64_zero (w.alloc (.cells #[.bool false, .slice none 0 0] 67)))
    rw [show ((0 : Nat) : Int) = 0 from rfl]
    go_enter Try.func28, Try.ntmps28
    go_wp2_with (first | (go_at_call 38; go_must (refine HM.out.mono ?_); rintro e w1 ⟨rfl, rfl⟩))
    go_ret
    exact ⟨rfl, ⟨Nat.le_refl _, by simp, by simp, .inl ⟨rfl, by simp⟩⟩, (Below.refl _ _).alloc (Nat.le_refl _) _⟩
  · have HM := Lib.hid (setUint64_pos n (w.alloc (.cells #[.bool false, .slice none 0 0] 67)) (by omega))
    have HP : Hid (0 < n) := Lib.hid (by omega)
    clear h0
    go_enter Try.func28, Try.ntmps28
    go_wp2_with (first | (go_at_call 38; go_must (refine HM.out.mono ?_); rintro e w1 ⟨k, c, rfl, H1⟩; obtain ⟨⟨c0, c1, f0, f1, hz⟩, hb1⟩ := made2 H1.below; have HB := Lib.hid hb1; have HW := Lib.hid H1; clear hb1 H1))
    go_ret
    obtain ⟨h1, h2, h3, h4, _⟩ := HW.out
    have h1' : w.heap.size + 1 ≤ k := by simpa using h1
    exact ⟨rfl, ⟨Nat.le_refl _, by simpa using hz, World.cell?_setCell_same _ _ _ ((World.cell?_setCell_other _ _ _ _ (by simp)).trans c0), .inr ⟨HP.out, k, c, by omega, by simpa using h2, (World.cell?_setCell_other _ _ _ _ (by simp)).trans (World.cell?_setCell_same _ _ _ c1), by rw [cell_far (by show w.heap.size ≠ k; omega), cell_far (by show w.heap.size ≠ k; omega)]; exact h3, h4⟩⟩, (HB.out.setCell (Nat.le_refl _) _).setCell (Nat.le_refl _) _⟩

theorem fromUint_any (n : Nat) (w : World) :
    Calls Try.prog 17 #[.int .u64 n] w fun e w' => ∃ g, e = .returned (.agg #[.pointer (some ⟨g, 0, none⟩), .int .i32 0]) ∧ Is1 w' w.heap.size g false n ∧ Below w.heap.size w w' := by
  have hB := bigSet_any n (w.alloc (.cells #[.pointer none, .int .i32 0] 50))
  rw [show (w.alloc (.cells #[.pointer none, .int .i32 0] 50)).heap.size = w.heap.size + 1 by simp] at hB
  have HB := Lib.hid hB
  clear hB
  go_enter Try.func17, Try.ntmps17
  go_wp2_with (first | (go_at_call 28; go_must (refine HB.out.mono ?_); rintro e w1 ⟨rfl, hi, hb⟩; obtain ⟨⟨c0, c1, f0, f1, hz⟩, hb1⟩ := made2 (by simpa using hb); have HI := Lib.hid hi; have HW := Lib.hid hb1; clear hb hi hb1))
  exact bodyPost_ret (v := .agg #[.pointer (some ⟨w.heap.size + 1, 0, none⟩), .int .i32 0]) (by simp [results, Try.results17, go_sem, c0, c1, f0, f1, hz]) rfl ⟨_, rfl, ((HI.out.set (by simp) _).set (by simp) _).lower (by simp), (HW.out.setCell (Nat.le_refl _) _).setCell (Nat.le_refl _) _⟩
theorem new_any (x e : Int) (w : World) (h1 : -9223372036854775808 ≤ x) (h2 : x ≤ 9223372036854775807) :
    Calls Try.prog 16 #[.int .i64 x, .int .i32 e] w fun r w' => ∃ g, r = .returned (.agg #[.pointer (some ⟨g, 0, none⟩), .int .i32 e]) ∧ Is1 w' w.heap.size g (decide (x < 0)) x.natAbs ∧ Below w.heap.size w w' := by
  have HB := Lib.hid (fun W => newInt_any x W h1 h2)
  generalize decide (x < 0) = neg at HB ⊢
  generalize x.natAbs = n at HB ⊢
  go_enter Try.func16, Try.ntmps16
  go_wp2_with (first | (go_at_call 27; go_must (refine (HB.out _).mono ?_); rintro e w1 ⟨g, rfl, hi, hb⟩; obtain ⟨⟨c0, c1, f0, f1, hz⟩, hb1⟩ := made2 hb; have HI := Lib.hid hi; have HW := Lib.hid hb1; clear hb hi hb1))
  exact bodyPost_ret (v := .agg #[.pointer (some ⟨g, 0, none⟩), .int .i32 e]) (by simp [results, Try.results16, go_sem, c0, c1, f0, f1, hz]) rfl ⟨_, rfl, ((HI.out.set (by simp) _).set (by simp) _).lower (by simp), (HW.out.setCell (Nat.le_refl _) _).setCell (Nat.le_refl _) _⟩

theorem getValue_any (g : Nat) (e : Int) (w : World) :
    Calls Try.prog 34 #[.agg #[.pointer (some ⟨g, 0, none⟩), .int .i32 e]] w fun r w' => r = .returned (.pointer (some ⟨g, 0, none⟩)) ∧ Below w.heap.size w w' := by
  go_enter Try.func34, Try.ntmps34
  go_wp2
  go_ret
  exact ⟨rfl, (Below.refl _ _).alloc (Nat.le_refl _) _⟩
theorem zzValue_any (g : Nat) (e : Int) (w : World) :
    Calls Try.prog 25 #[.agg #[.pointer (some ⟨g, 0, none⟩), .int .i32 e]] w fun r w' => r = .returned (.pointer (some ⟨g, 0, none⟩)) ∧ Below w.heap.size w w' := by
  have HG := Lib.hid (fun W => getValue_any g e W)
  go_enter Try.func25, Try.ntmps25
  go_wp2_with (first | (go_at_call 34; go_must (refine (HG.out _).mono ?_); rintro e w1 ⟨rfl, hb⟩; have HB := Lib.hid (below_one _ hb); clear hb))
  go_ret
  exact ⟨rfl, HB.out⟩
theorem exponent_any (g : Nat) (e : Int) (w : World) :
    Calls Try.prog 26 #[.agg #[.pointer (some ⟨g, 0, none⟩), .int .i32 e]] w fun r w' => r = .returned (.int .i32 e) ∧ Below w.heap.size w w' := by
  go_enter Try.func26, Try.ntmps26
  go_wp2
  go_ret
  exact ⟨rfl, (Below.refl _ _).alloc (Nat.le_refl _) _⟩

/-- What is held in the middle of 'dec'. -/
structure Held (w w1 : World) (g : Nat) (e : Int) (neg : Bool) (ws : List Int) : Prop where
  c0 : w1.cell? ⟨w.heap.size, 0, none⟩ = some (.pointer (some ⟨g, 0, none⟩))
  c1 : w1.cell? ⟨w.heap.size, 1, none⟩ = some (.int .i32 e)
  d0 : w1.cell? ⟨w.heap.size + 1, 0, none⟩ = some (.string ⟨#[]⟩)
  d1 : w1.cell? ⟨w.heap.size + 1, 1, none⟩ = some (.int .i64 0)
  f0 : w1.frozen? ⟨w.heap.size + 1, 0, none⟩ = false
  f1 : w1.frozen? ⟨w.heap.size + 1, 1, none⟩ = false
  lt : w.heap.size + 1 < w1.heap.size
  int : IsInt w1 g neg ws
  below : Below w.heap.size w w1
theorem _root_.Go.Proofs.Ythkmgjkajllemaa.Big.IsInt.below {w w1 : World} {g : Nat} {neg : Bool} {ws : List Int} (h : IsInt w g neg ws) (hb : Below w.heap.size w w1) : IsInt w1 g neg ws := by
  obtain ⟨h0, A, c, h1, h2, h3⟩ := h
  exact ⟨pw_cell_below hb h0, A, c, pw_cell_below hb h1, h2, Kd.C_below h3 hb⟩
theorem Held.call {w w1 w2 : World} {g : Nat} {e : Int} {neg : Bool} {ws : List Int} (h : Held w w1 g e neg ws) (hb : Below w1.heap.size w1 w2) : Held w w2 g e neg ws :=
  ⟨pw_cell_below hb h.c0, pw_cell_below hb h.c1, pw_cell_below hb h.d0, pw_cell_below hb h.d1, (hb.frozen (p := ⟨w.heap.size + 1, 0, none⟩) h.lt).trans h.f0, (hb.frozen (p := ⟨w.heap.size + 1, 1, none⟩) h.lt).trans h.f1, Nat.lt_of_lt_of_le h.lt hb.size, h.int.below hb, below_by h.below hb⟩

set_option maxHeartbeats 1000000 in
theorem dec_any (g : Nat) (e : Int) (neg : Bool) (ws : List Int) (N : Nat) (w : World) (hI : IsInt w g neg ws) (hw : ∀ x ∈ ws, 0 ≤ x ∧ x < 18446744073709551616) (hl : ws.length < 1000000) (hN : v64 ws = N) (hdl : (decs N).length < 1000000000) (h1 : -2147483648 ≤ e) (h2 : e ≤ 2147483647) :
    Calls Try.prog 15 #[.agg #[.pointer (some ⟨g, 0, none⟩), .int .i32 e]] w fun r w' => r = .returned (.agg #[.string (textZ neg N), .int .i64 e]) ∧ Below w.heap.size w w' := by
  have HZ := Lib.hid (fun W => zzValue_any g e W)
  have HE := Lib.hid (fun W => exponent_any g e W)
  have HD := Lib.hid (fun W hW => digits_any g neg ws W hW hw hl N hN hdl)
  have HH : Hid (Held w ((w.alloc (.cells #[.pointer (some ⟨g, 0, none⟩), .int .i32 e] 50)).alloc (.cells #[.string ⟨#[]⟩, .int .i64 0] 24)) g e neg ws) :=
    ⟨by simp, by simp, by simp, by simp, by simp, by simp, by simp, (hI.below ((Below.refl _ _).alloc (Nat.le_refl _) _)).below ((Below.refl _ _).alloc (Nat.le_refl _) _), ((Below.refl _ _).alloc (Nat.le_refl _) _).alloc (by simp) _⟩
  clear hI hw hN hl hdl
  generalize textZ neg N = txt at HD ⊢
  go_enter Try.func15, Try.ntmps15
  go_wp2
  obtain ⟨W, hW⟩ : ∃ W, (w.alloc (.cells #[.pointer (some ⟨g, 0, none⟩), .int .i32 e] 50)).alloc (.cells #[.string ⟨#[]⟩, .int .i64 0] 24) = W := ⟨_, rfl⟩
  rw [hW] at HH ⊢
  clear hW
  have HHd := Lib.hid (HH.out.call (below_drew (Below.refl _ _)))
  have c0 := HH.out.c0
  have c1 := HH.out.c1
  clear HH
  have hwr : IntKind.i64.wrap e = e := IntWalk.i64_in _ (by omega)
  go_region_with (first | (go_at_call 25; go_must (refine (HZ.out _).mono ?_); rintro r w2 ⟨rfl, hb⟩; have HH2 := Lib.hid (HHd.out.call hb); have c0' := HH2.out.c0; have c1' := HH2.out.c1; clear hb) | (go_at_call 24; go_must (refine (HD.out _ HH2.out.int).mono ?_); rintro r w3 ⟨rfl, hb⟩; have HH3 := Lib.hid (HH2.out.call hb); have c0'' := HH3.out.c0; have c1'' := HH3.out.c1; clear hb) | (go_at_call 26; go_must (refine (HE.out _).mono ?_); rintro r w4 ⟨rfl, hb⟩; obtain ⟨_, _, d0, d1, f0, f1, hz, _, hB⟩ := HH3.out.call hb; have HB := Lib.hid hB; clear hb hB))
  all_goals (go_wp2; exact bodyPost_ret (v := .agg #[.string txt, .int .i64 e]) (by simp [results, Try.results15, go_sem, d0, d1, f0, f1, hz]) rfl ⟨rfl, (HB.out.setCell (Nat.le_succ _) _).setCell (Nat.le_succ _) _⟩)
theorem dec1_any (g : Nat) (e : Int) (neg : Bool) (n b : Nat) (w : World) (hI : Is1 w b g neg n) (hn : n < 18446744073709551616) (h1 : -2147483648 ≤ e) (h2 : e ≤ 2147483647) :
    Calls Try.prog 15 #[.agg #[.pointer (some ⟨g, 0, none⟩), .int .i32 e]] w fun r w' => r = .returned (.agg #[.string (textZ neg n), .int .i64 e]) ∧ Below w.heap.size w w' := by
  have hd := decs_length 20 n (by omega)
  have hl := ws1_length n
  refine dec_any g e neg (ws1 n) n w hI.int ?_ (by omega) (v64_ws1 n) (by omega) h1 h2
  intro x hx
  unfold ws1 at hx
  split at hx
  · simp at hx
  · simp at hx; omega
end Go.Proofs.Ythkmgjkajllemaa.DecMake

/- Big integers out of words: norm, SetBits, Neg. -/
namespace Go.Proofs.Ythkmgjkajllemaa.BigSet
open Go.RowKit Go.Proofs.YthkmgjkajllemaaW.PrintWords Go.Proofs.YthkmgjkajllemaaW.PrintLast Go.Proofs.YthkmgjkajllemaaW.PrintMore Go.Proofs.Ythkmgjkajllemaa.Num Go.Proofs.Ythkmgjkajllemaa.Big Go.Proofs.Ythkmgjkajllemaa.Wsum Go.Proofs.Ythkmgjkajllemaa.DecMake Go.Proofs.Ythkmgjkajllemaa.Mem
set_option linter.unusedVariables false
set_option linter.unusedSimpArgs false

/-- All words are words of 64 bits. -/
def In64 (l : List Int) : Prop := ∀ x ∈ l, 0 ≤ x ∧ x < 18446744073709551616
theorem v64_top (l : List Int) (h : In64 l) (z : Nat) (hz : z < l.length) (hx : 0 < l.getD z 0) : 0 < v64 l := by
  induction l generalizing z with
  | nil => simp at hz
  | cons x l ih =>
    have h0 := h x (by simp)
    have ht : In64 l := fun y hy => h y (by simp [hy])
    have hn := v64_nonneg l ht
    simp only [v64]
    cases z with
    | zero => simp at hx; omega
    | succ z =>
      have := ih ht z (by simpa using hz) (by simpa using hx)
      omega
/-- The words without zeros at the top. -/
structure Normed (ws vs : List Int) : Prop where
  val : v64 vs = v64 ws
  inn : In64 vs
  le : vs.length ≤ ws.length
  pos : 0 < vs.length ↔ 0 < v64 vs

theorem normed_take (ws : List Int) (hw : In64 ws) (z : Nat) (hz : z ≤ ws.length) (hv : v64 (ws.take z) = v64 ws) (hn : z = 0 ∨ ¬ ws.getD (z - 1) 0 = 0) : Normed ws (ws.take z) := by
  have hi : In64 (ws.take z) := fun x hx => hw x (List.mem_of_mem_take hx)
  have hl : (ws.take z).length = z := by rw [List.length_take]; omega
  refine ⟨hv, hi, by omega, ⟨fun h => ?_, fun h => ?_⟩⟩
  · rw [hl] at h
    have h1 : (ws.take z).getD (z - 1) 0 = ws.getD (z - 1) 0 := by
      rw [List.getD_eq_getElem?_getD, List.getD_eq_getElem?_getD, List.getElem?_take, if_pos (by omega)]
    have h2 := hw (ws.getD (z - 1) 0) (by rw [List.getD_eq_getElem?_getD, List.getElem?_eq_getElem (by omega)]; simp)
    refine v64_top _ hi (z - 1) (by omega) ?_
    rw [h1]
    rcases hn with hn | hn <;> omega
  · rcases Nat.eq_zero_or_pos (ws.take z).length with h0 | h0
    · have := List.length_eq_zero_iff.1 h0
      rw [this] at h
      simp [v64] at h
    · exact h0

set_option maxHeartbeats 1000000 in
theorem norm_any (A : Option Addr) (c : Nat) (ws : List Int) (b : Nat) (ok : Nat → Prop) (w : World) (hr : Kd.R (Kd.int .u64) 81 w b ok (.slice A ws.length c) ws) (hw : In64 ws) (hl : ws.length < 1000000) :
    Calls Try.prog 51 #[.slice A ws.length c] w fun e w' => ∃ vs, e = .returned (.slice A vs.length c) ∧ Normed ws vs ∧ Kd.R (Kd.int .u64) 81 w b ok (.slice A vs.length c) vs ∧ w' = w := by
  obtain ⟨A', c', e', hc, hC⟩ := Kd.R_reads hr
  cases e'
  have HR := Aside0.mk hC
  have HRR := Aside0.mk hr
  have HW := Aside0.mk hw
  clear hr hw hC
  go_enter Try.func51, Try.ntmps51
  go_wp2
  go_loop [3] (fun v2 => ∃ z : Nat, v2 = .int .i64 z ∧ z ≤ ws.length ∧ Aside0 (v64 (ws.take z) = v64 ws)) (fun v2 => (intOf v2).toNat)
  case atStart => exact ⟨ws.length, rfl, Nat.le_refl _, ⟨by rw [List.take_length]⟩⟩
  case round =>
    obtain ⟨z, rfl, hz, HV⟩ := hrel
    by_cases hcont : 0 < z ∧ ws.getD (z - 1) 0 = 0
    · obtain ⟨hz1, hz2⟩ := hcont
      obtain ⟨z, rfl⟩ : ∃ y, z = y + 1 := ⟨z - 1, by omega⟩
      rw [Nat.add_sub_cancel] at hz2
      obtain ⟨ad, e0, hc0⟩ := Kd.at_int HR.out (z : Int) (by omega) (by omega)
      unfold rd at hc0
      rw [Int.toNat_natCast, hz2] at hc0
      subst e0
      have hv : ((z + 1 : Nat) : Int) - 1 = z := by omega
      have HV2 : Aside0 (v64 (ws.take z) = v64 ws) := ⟨by
        rw [← HV.out, ← v64_take (ws.take (z + 1)) z (by rw [List.length_take]; omega) (by rw [List.getD_eq_getElem?_getD, List.getElem?_take, if_pos (by omega), ← List.getD_eq_getElem?_getD]; exact hz2), List.take_take, Nat.min_eq_left (by omega)]⟩
      clear HV
      go_wp2
      go_round
      case rel => exact ⟨z, by go_num, by omega, HV2⟩
      case measure => simp [intOf]
    · have HN : Aside0 (Normed ws (ws.take z)) := ⟨normed_take ws HW.out z hz HV.out (by
        rcases Nat.eq_zero_or_pos z with h | h
        · exact .inl h
        · exact .inr (fun h2 => hcont ⟨h, h2⟩))⟩
      have HT := Aside0.mk (Kd.R_take HRR.out hz)
      have hlen : (ws.take z).length = z := by rw [List.length_take]; omega
      rcases (by omega : z = 0 ∨ 0 < z) with hz0 | hz0
      · subst hz0
        clear hcont HV
        go_wp2
        go_ret
        exact ⟨ws.take 0, by rw [hlen]; rfl, HN.out, by rw [hlen]; exact HT.out, rfl⟩
      · have hz2 : ¬ ws.getD (z - 1) 0 = 0 := fun h => hcont ⟨hz0, h⟩
        obtain ⟨ad, e0, hc0⟩ := Kd.at_int HR.out ((z : Int) - 1) (by omega) (by omega)
        unfold rd at hc0
        rw [show ((z : Int) - 1).toNat = z - 1 by omega] at hc0
        have hx := HW.out (ws.getD (z - 1) 0) (by rw [List.getD_eq_getElem?_getD, List.getElem?_eq_getElem (by omega)]; simp)
        obtain ⟨x, hx4⟩ : ∃ x : Nat, ws.getD (z - 1) 0 = x := Int.eq_ofNat_of_zero_le hx.1
        rw [hx4] at hc0 hx hz2
        subst e0
        have hzb : decide (0 < (z : Int)) = true := decide_eq_true (by omega)
        clear hcont HV
        go_wp2
        go_ret
        exact ⟨ws.take z, by rw [hlen]; rfl, HN.out, by rw [hlen]; exact HT.out, rfl⟩

/-- A big integer that may be written. -/
structure Own (w : World) (b g : Nat) (neg : Bool) (vs : List Int) : Prop where
  int : IsInt w g neg vs
  f0 : w.frozen? ⟨g, 0, none⟩ = false
  f1 : w.frozen? ⟨g, 1, none⟩ = false
  lt : g < w.heap.size
  away : ∃ A c ok, w.cell? ⟨g, 1, none⟩ = some (.slice A vs.length c) ∧ Kd.R (Kd.int .u64) 81 w b ok (.slice A vs.length c) vs ∧ ∀ k, ok k → k ≠ g

theorem setBits_any (A : Option Addr) (c g b : Nat) (ws : List Int) (ok : Nat → Prop) (w : World) (hok : ∀ k, ok k → k ≠ g)
    (c0 : w.cell? ⟨g, 0, none⟩ = some (.bool false)) (c1 : w.cell? ⟨g, 1, none⟩ = some (.slice none 0 0)) (f0 : w.frozen? ⟨g, 0, none⟩ = false) (f1 : w.frozen? ⟨g, 1, none⟩ = false) (hb : b ≤ g)
    (hr : Kd.R (Kd.int .u64) 81 w b ok (.slice A ws.length c) ws) (hw : In64 ws) (hl : ws.length < 1000000) :
    Calls Try.prog 45 #[.pointer (some ⟨g, 0, none⟩), .slice A ws.length c] w fun e w' => e = .returned (.pointer (some ⟨g, 0, none⟩)) ∧ ∃ vs, Normed ws vs ∧ Own w' b g false vs ∧ Below b w w' := by
  have HN := Lib.hid (norm_any A c ws b ok w hr hw hl)
  have HO : Hid (∀ k, ok k → k ≠ g) := Lib.hid hok
  clear hr hw
  go_enter Try.func45, Try.ntmps45
  go_wp2_with (first | (go_at_call 51; go_must (refine HN.out.mono ?_); rintro e w1 ⟨vs, rfl, hn, hr, rfl⟩; have HV := Lib.hid hn; have HR := Lib.hid hr; clear hn hr))
  go_ret
  refine ⟨rfl, vs, HV.out, ?_, ((Below.refl _ _).setCell hb _).setCell hb _⟩
  have hr2 := Kd.R_far (Kd.R_far HR.out (p := ⟨g, 1, none⟩) HO.out (.slice A vs.length c)) (p := ⟨g, 0, none⟩) HO.out (.bool false)
  obtain ⟨A', c', e', hc', hC⟩ := Kd.R_reads hr2
  cases e'
  have k1 : ((w1.setCell ⟨g, 1, none⟩ (.slice A vs.length c)).setCell ⟨g, 0, none⟩ (.bool false)).cell? ⟨g, 1, none⟩ = some (.slice A vs.length c) :=
    (World.cell?_setCell_other _ _ _ _ (by simp)).trans (World.cell?_setCell_same _ _ _ c1)
  refine ⟨⟨World.cell?_setCell_same _ _ _ ((World.cell?_setCell_other _ _ _ _ (by simp)).trans c0), A, c, k1, hc', hC⟩, by simpa using f0, by simpa using f1, by have := World.block_lt_of_cell? _ _ k1; exact this, A, c, ok, k1, hr2, HO.out⟩
theorem info67 : (Try.prog.info? 67).map (fun i => i.size) = some 2 := by kernel_rfl
theorem run_neq_same {P : Program} (w : World) {tp te : TypeId} {j : TypeInfo} (a : Addr) (hp : P.underlying tp = some (.pointer te)) (hte : P.info? te = some j) :
    (binOp .neq tp (.pointer (some a)) (.pointer (some a))).run P w = .ok (.bool false) w := by
  have h : ∀ d : Nat, (Op.equalIn (d + 1) tp (.pointer (some a)) (.pointer (some a))).run P w = .ok true w := fun d => by
    simp [Op.equalIn, run_underlying hp, sizeOf, typeInfo, hte, run_sameAddr_same]
  simp only [binOp]
  simp [Op.equal, Op.maxDepth, h 9999]
set_option maxRecDepth 100000 in
theorem set_same (g : Nat) (w : World) :
    Calls Try.prog 52 #[.pointer (some ⟨g, 0, none⟩), .pointer (some ⟨g, 0, none⟩)] w fun e w' => e = .returned (.pointer (some ⟨g, 0, none⟩)) ∧ w' = w := by
  obtain ⟨j, hj, -⟩ := Option.map_eq_some_iff.1 info67
  go_enter Try.func52, Try.ntmps52
  go_wp2
  rw [run_neq_same w _ Try.underlying48 hj]
  go_wp2
  go_ret
  exact ⟨rfl, rfl⟩
set_option maxRecDepth 100000 in
theorem neg_any (g b : Nat) (vs : List Int) (w : World) (h : Own w b g false vs) (hp : 0 < vs.length) (hb : b ≤ g) :
    Calls Try.prog 46 #[.pointer (some ⟨g, 0, none⟩), .pointer (some ⟨g, 0, none⟩)] w fun e w' => e = .returned (.pointer (some ⟨g, 0, none⟩)) ∧ Own w' b g true vs ∧ Below b w w' := by
  have HH := Lib.hid h
  obtain ⟨hi, f0, f1, -, A, c, ok, c1, hr, hok⟩ := h
  have c0 := hi.neg
  have HR := Lib.hid hr
  have HK : Hid (∀ k, ok k → k ≠ g) := Lib.hid hok
  have hpp : decide (0 < (vs.length : Int)) = true := decide_eq_true (by omega)
  have HS := Lib.hid (set_same g w)
  clear hi hr hok
  go_enter Try.func46, Try.ntmps46
  go_wp2_with (first | (go_at_call 52; go_must (refine HS.out.mono ?_); rintro e w1 ⟨rfl, rfl⟩))
  go_ret
  refine ⟨rfl, ?_, (Below.refl _ _).setCell hb _⟩
  have hr2 := Kd.R_far HR.out (p := ⟨g, 0, none⟩) HK.out (.bool true)
  obtain ⟨A', c', e', hc', hC⟩ := Kd.R_reads hr2
  cases e'
  have k1 : (w1.setCell ⟨g, 0, none⟩ (.bool true)).cell? ⟨g, 1, none⟩ = some (.slice A vs.length c) := (World.cell?_setCell_other _ _ _ _ (by simp)).trans c1
  exact ⟨⟨World.cell?_setCell_same _ _ _ c0, A, c, k1, hc', hC⟩, by simpa using f0, by simpa using f1, by have := World.block_lt_of_cell? _ _ k1; exact this, A, c, ok, k1, hr2, HK.out⟩
end Go.Proofs.Ythkmgjkajllemaa.BigSet

/- What lists of limbs are worth, and how that turns when one limb is set; plain facts, no program is in sight. -/
namespace Go.Proofs.Ythkmgjkajllemaa.Val
open Go.RowKit Go.Proofs.Ythkmgjkajllemaa.Num
set_option linter.unusedVariables false
set_option linter.unusedSimpArgs false

/-- What a list of limbs is worth. -/
def val : List Int → Int
  | [] => 0
  | x :: l => x + (1000000000 : Int) * val l
/-- All limbs are limbs. -/
def Digs (l : List Int) : Prop := ∀ k, 0 ≤ l.getD k 0 ∧ l.getD k 0 < (1000000000 : Int)

theorem Digs.nil : Digs [] := fun k => by simp
theorem Digs.tail {x : Int} {l : List Int} (h : Digs (x :: l)) : Digs l := fun k => by have := h (k + 1); simpa using this
theorem Digs.head {x : Int} {l : List Int} (h : Digs (x :: l)) : 0 ≤ x ∧ x < (1000000000 : Int) := by have := h 0; simpa using this
theorem Digs.cons {x : Int} {l : List Int} (h0 : 0 ≤ x) (h1 : x < (1000000000 : Int)) (h : Digs l) : Digs (x :: l) := fun k => by
  cases k with
  | zero => simpa using ⟨h0, h1⟩
  | succ k => simpa using h k
theorem Digs.set {l : List Int} (h : Digs l) (i : Nat) {v : Int} (h0 : 0 ≤ v) (h1 : v < (1000000000 : Int)) : Digs (l.set i v) := fun k => by
  by_cases hi : i < l.length
  · rw [getD_set _ _ _ _ hi]
    split
    · exact ⟨h0, h1⟩
    · exact h k
  · rw [List.set_eq_of_length_le (by omega)]
    exact h k
theorem Digs.zeros (n : Nat) : Digs (List.replicate n 0) := fun k => by
  rw [List.getD_eq_getElem?_getD, List.getElem?_replicate]
  split <;> simp
theorem Digs.append {l r : List Int} (h : Digs l) (k : Digs r) : Digs (l ++ r) := by
  induction l with
  | nil => exact k
  | cons x l ih => exact Digs.cons h.head.1 h.head.2 (ih h.tail)
theorem Digs.one {x : Int} (h0 : 0 ≤ x) (h1 : x < (1000000000 : Int)) : Digs [x] := Digs.cons h0 h1 Digs.nil
theorem Digs.take {l : List Int} (h : Digs l) (n : Nat) : Digs (l.take n) := fun k => by
  rw [List.getD_eq_getElem?_getD, List.getElem?_take]
  split
  · exact h k
  · simp

theorem val_nonneg : ∀ {l : List Int}, Digs l → 0 ≤ val l
  | [], _ => Int.le_refl _
  | x :: l, h => by
    have := val_nonneg h.tail
    have := h.head
    unfold val
    omega
theorem val_append (l r : List Int) : val (l ++ r) = val l + (1000000000 : Int) ^ l.length * val r := by
  induction l with
  | nil => simp [val]
  | cons x l ih =>
    simp only [List.cons_append, val, List.length_cons, ih, Int.pow_succ]
    grind
theorem val_set : ∀ (l : List Int) (i : Nat) (v : Int), i < l.length → val (l.set i v) = val l + (1000000000 : Int) ^ i * (v - l.getD i 0)
  | x :: l, 0, v, _ => by simp [val]; omega
  | x :: l, i + 1, v, h => by
    simp only [List.set_cons_succ, val, List.getD_cons_succ, Int.pow_succ]
    rw [val_set l i v (by simpa using h)]
    grind
theorem val_zeros (n : Nat) : val (List.replicate n 0) = 0 := by
  induction n with
  | zero => rfl
  | succ n ih => simp [List.replicate_succ, val, ih]
theorem pow_pos (n : Nat) : 0 < (1000000000 : Int) ^ n := Int.pow_pos (by decide)
theorem val_lt : ∀ {l : List Int}, Digs l → val l < (1000000000 : Int) ^ l.length
  | [], _ => by simp [val]
  | x :: l, h => by
    have h1 := val_lt h.tail
    have := h.head
    simp only [val, List.length_cons, Int.pow_succ]
    omega
theorem val_take_succ (l : List Int) (n : Nat) (h : n < l.length) : val (l.take (n + 1)) = val (l.take n) + (1000000000 : Int) ^ n * l.getD n 0 := by
  rw [List.take_succ_eq_append_getElem h, val_append, List.getD_eq_getElem?_getD, List.getElem?_eq_getElem h]
  simp [val, Nat.min_eq_left (Nat.le_of_lt h)]

theorem digs_limbs (n : Nat) : Digs (limbs n) := by
  induction n using Nat.strongRecOn with
  | ind n ih =>
    rcases Nat.eq_zero_or_pos n with h | h
    · subst h; rw [limbs_zero]; exact Digs.nil
    · rw [limbs_pos h]
      exact Digs.cons (by omega) (by show _ < (1000000000 : Int); omega) (ih _ (by omega))
theorem val_limbs (n : Nat) : val (limbs n) = n := by
  induction n using Nat.strongRecOn with
  | ind n ih =>
    rcases Nat.eq_zero_or_pos n with h | h
    · subst h; rw [limbs_zero]; rfl
    · rw [limbs_pos h, val, ih _ (by omega)]
      show _ + (1000000000 : Int) * _ = _
      omega
/-- A list of limbs whose last one is not 0 is that of its worth. -/
theorem limbs_val : ∀ {l : List Int}, Digs l → (∀ h : l ≠ [], l.getLast h ≠ 0) → limbs (val l).toNat = l
  | [], _, _ => by simp [val, limbs_zero]
  | [x], h, hl => by
    have h0 := h.head
    have hx : x ≠ 0 := by simpa using hl (by simp)
    obtain ⟨n, rfl⟩ := Int.eq_ofNat_of_zero_le h0.1
    have h1 : (n : Int) < 1000000000 := h0.2
    simp only [val]
    rw [show ((n : Int) + (1000000000 : Int) * 0).toNat = n by omega, limbs_pos (by omega), show n / 1000000000 = 0 by omega, limbs_zero]
    rw [show n % 1000000000 = n by omega]
  | x :: y :: l, h, hl => by
    have ih := limbs_val h.tail (fun hne => by have := hl (by simp); simpa using this)
    have h0 := h.head
    obtain ⟨n, rfl⟩ := Int.eq_ofNat_of_zero_le h0.1
    obtain ⟨m, hm⟩ := Int.eq_ofNat_of_zero_le (val_nonneg h.tail)
    have h1 : (n : Int) < 1000000000 := h0.2
    have hpos : 0 < m := by
      rcases Nat.eq_zero_or_pos m with hz | hz
      · subst hz
        rw [hm] at ih
        simp [limbs_zero] at ih
      · exact hz
    rw [val, hm]
    rw [hm, Int.toNat_natCast] at ih
    rw [show ((n : Int) + (1000000000 : Int) * m).toNat = n + 1000000000 * m by show (_ + (1000000000 : Int) * _).toNat = _; omega, limbs_pos (by omega)]
    rw [show (n + 1000000000 * m) % 1000000000 = n by omega, show (n + 1000000000 * m) / 1000000000 = m by omega, ih]
/-- A list of limbs without zeros at its end. -/
def trim (l : List Int) : List Int := limbs (val l).toNat
theorem trim_append_zero (l : List Int) : trim (l ++ [0]) = trim l := by
  unfold trim
  rw [val_append]
  simp [val]
theorem limbs_len_lt (a b : Nat) (h : (limbs a).length < (limbs b).length) : a < b := by
  have h1 := val_lt (digs_limbs a)
  rw [val_limbs] at h1
  have hp := (limbs_at b (limbs a).length h).2
  have h2 : 1000000000 ^ (limbs a).length ≤ b := by
    unfold rest at hp
    have := Nat.div_add_mod b (1000000000 ^ (limbs a).length)
    have h3 : 1000000000 ^ (limbs a).length * 1 ≤ 1000000000 ^ (limbs a).length * (b / 1000000000 ^ (limbs a).length) := Nat.mul_le_mul_left _ hp
    omega
  have h3 : (a : Int) < ((1000000000 ^ (limbs a).length : Nat) : Int) := by
    rw [Int.natCast_pow]; exact h1
  omega
theorem rest_step (n i : Nat) : rest n i = rest n i % 1000000000 + 1000000000 * rest n (i + 1) := by rw [rest_succ]; omega
theorem rest_done (n : Nat) : rest n (limbs n).length = 0 := by
  rcases Nat.eq_zero_or_pos (rest n (limbs n).length) with h | h
  · exact h
  · exact absurd ((rest_pos n _).2 h) (Nat.lt_irrefl _)
theorem limbs_getD (n i : Nat) : (limbs n).getD i 0 = ((rest n i % 1000000000 : Nat) : Int) := by
  by_cases h : i < (limbs n).length
  · exact (limbs_at n i h).1
  · have h0 : rest n i = 0 := by
      rcases Nat.eq_zero_or_pos (rest n i) with h1 | h1
      · exact h1
      · exact absurd ((rest_pos n i).2 h1) h
    rw [h0, List.getD_eq_getElem?_getD, List.getElem?_eq_none (by omega)]
    rfl
/-- A product of two limbs, and two limbs beside it, are less than the square. -/
theorem mul_room {x y o c : Int} (x0 : 0 ≤ x) (x1 : x < (1000000000 : Int)) (y0 : 0 ≤ y) (y1 : y < (1000000000 : Int)) (o0 : 0 ≤ o) (o1 : o < (1000000000 : Int)) (c0 : 0 ≤ c) (c1 : c < (1000000000 : Int)) : 0 ≤ x * y ∧ x * y < 1000000000000000000 ∧ 0 ≤ c + (o + x * y) ∧ c + (o + x * y) < 1000000000000000000 := by
  have h0 := Int.mul_nonneg x0 y0
  have h1 : x * y ≤ 999999999 * y := Int.mul_le_mul_of_nonneg_right (by show x ≤ 999999999; omega) y0
  omega
end Go.Proofs.Ythkmgjkajllemaa.Val
