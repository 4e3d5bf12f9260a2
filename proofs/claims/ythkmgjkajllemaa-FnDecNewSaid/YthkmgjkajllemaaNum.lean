/- Plain facts on numbers, their limbs of nine digits and their decimal digits; no program is in sight. -/
import Derived.WalkKit
import Derived.Laws.BytesArg
namespace Go.Proofs.Ythkmgjkajllemaa.Num
open Go.RowKit

/-- The limbs of a number, nine digits each, the lowest ones first. -/
def limbs (n : Nat) : List Int := if n = 0 then [] else ((n % 1000000000 : Nat) : Int) :: limbs (n / 1000000000)
termination_by n
decreasing_by omega

theorem limbs_zero : limbs 0 = [] := by unfold limbs; rfl
theorem limbs_pos {n : Nat} (h : 0 < n) : limbs n = ((n % 1000000000 : Nat) : Int) :: limbs (n / 1000000000) := by
  rw [limbs, if_neg (by omega)]
theorem limbs_nil {n : Nat} (h : limbs n = []) : n = 0 := by
  rcases Nat.eq_zero_or_pos n with h0 | h0
  · exact h0
  · rw [limbs_pos h0] at h; simp at h

/-- The decimal digits of a number as bytes, the lowest ones first. -/
def decs (n : Nat) : List Int := if n = 0 then [] else ((48 + n % 10 : Nat) : Int) :: decs (n / 10)
termination_by n
decreasing_by omega

theorem decs_zero : decs 0 = [] := by unfold decs; rfl
theorem decs_pos {n : Nat} (h : 0 < n) : decs n = ((48 + n % 10 : Nat) : Int) :: decs (n / 10) := by
  rw [decs, if_neg (by omega)]

/-- The lowest m decimal digits. -/
def lows : Nat → Nat → List Int
  | 0, _ => []
  | m + 1, n => ((48 + n % 10 : Nat) : Int) :: lows m (n / 10)

theorem lows_split (m : Nat) : ∀ (n : Nat), n < 10 ^ m → 0 < m → ∀ h : Nat, 0 < h → decs (h * 10 ^ m + n) = lows m n ++ decs h := by
  induction m with
  | zero => intro n _ h0; omega
  | succ m ih =>
    intro n hn _ h hh
    have hp : 0 < 10 ^ m := Nat.pow_pos (by decide)
    have e : h * 10 ^ (m + 1) + n = 10 * (h * 10 ^ m) + n := by rw [Nat.pow_succ, Nat.mul_comm (10 ^ m) 10, ← Nat.mul_assoc, Nat.mul_comm h 10, Nat.mul_assoc]
    have hhp : 0 < h * 10 ^ m := Nat.mul_pos hh hp
    rw [decs_pos (by rw [e]; omega), lows]
    have e1 : (h * 10 ^ (m + 1) + n) % 10 = n % 10 := by rw [e]; omega
    have e2 : (h * 10 ^ (m + 1) + n) / 10 = h * 10 ^ m + n / 10 := by rw [e]; omega
    rw [e1, e2]
    rcases Nat.eq_zero_or_pos m with h0 | h0
    · subst h0
      have : n / 10 = 0 := by simp at hn; omega
      simp [this, lows]
    · rw [ih (n / 10) (by rw [Nat.pow_succ] at hn; omega) h0 h hh]
      rfl

theorem decs_limb (n : Nat) (h : 0 < n / 1000000000) : decs n = lows 9 (n % 1000000000) ++ decs (n / 1000000000) := by
  have := lows_split 9 (n % 1000000000) (by omega) (by omega) (n / 1000000000) h
  rw [← this]
  congr 1
  omega

theorem decs_length (m : Nat) : ∀ n, n < 10 ^ m → (decs n).length ≤ m := by
  induction m with
  | zero =>
    intro n hn
    have : n = 0 := by simpa using hn
    subst this; simp [decs_zero]
  | succ m ih =>
    intro n hn
    rcases Nat.eq_zero_or_pos n with h0 | h0
    · subst h0; simp [decs_zero]
    · rw [decs_pos h0]
      have := ih (n / 10) (by rw [Nat.pow_succ] at hn; omega)
      simp; omega
theorem lows_length (m : Nat) : ∀ n, (lows m n).length = m := by
  induction m with
  | zero => intro n; rfl
  | succ m ih => intro n; simp [lows, ih]

theorem limbs_length (m : Nat) : ∀ n, n < 1000000000 ^ m → (limbs n).length ≤ m := by
  induction m with
  | zero =>
    intro n hn
    have : n = 0 := by simpa using hn
    subst this; simp [limbs_zero]
  | succ m ih =>
    intro n hn
    rcases Nat.eq_zero_or_pos n with h0 | h0
    · subst h0; simp [limbs_zero]
    · rw [limbs_pos h0]
      have := ih (n / 1000000000) (by rw [Nat.pow_succ] at hn; exact Nat.div_lt_of_lt_mul (by rw [Nat.mul_comm]; exact hn))
      simp; omega

/-- What is left of a number behind its i lowest limbs. -/
def rest (n i : Nat) : Nat := n / 1000000000 ^ i
theorem rest_zero (n : Nat) : rest n 0 = n := by unfold rest; simp
theorem rest_succ (n i : Nat) : rest n (i + 1) = rest n i / 1000000000 := by unfold rest; rw [Nat.pow_succ, Nat.div_div_eq_div_mul]
theorem limbs_drop (n : Nat) : ∀ i, (limbs n).drop i = limbs (rest n i) := by
  intro i
  induction i with
  | zero => rw [rest_zero]; rfl
  | succ i ih =>
    rw [rest_succ]
    have e : (limbs n).drop (i + 1) = ((limbs n).drop i).tail := by simp
    rw [e, ih]
    rcases Nat.eq_zero_or_pos (rest n i) with h0 | h0
    · rw [h0]; simp [limbs_zero]
    · rw [limbs_pos h0]; rfl
theorem limbs_at (n i : Nat) (h : i < (limbs n).length) : (limbs n).getD i 0 = ((rest n i % 1000000000 : Nat) : Int) ∧ 0 < rest n i := by
  have hd := limbs_drop n i
  have hpos : 0 < rest n i := by
    rcases Nat.eq_zero_or_pos (rest n i) with h0 | h0
    · rw [h0, limbs_zero] at hd
      have := congrArg List.length hd
      simp at this
      omega
    · exact h0
  refine ⟨?_, hpos⟩
  rw [limbs_pos hpos] at hd
  have := congrArg (fun t => t[0]?) hd
  simp [List.getElem?_drop] at this
  simp [this]
theorem rest_pos (n i : Nat) : i < (limbs n).length ↔ 0 < rest n i := by
  refine ⟨fun h => (limbs_at n i h).2, fun h => ?_⟩
  have hd := congrArg List.length (limbs_drop n i)
  rw [limbs_pos h] at hd
  simp at hd
  omega

/-- What is still to be written of the limb x at its digit j, and of the limbs q above it. -/
def remd (j x q : Nat) : List Int := if 0 < q then lows (9 - j) x ++ decs q else decs x
theorem remd_step (j x q : Nat) (hj : j < 9) (h : 0 < x ∨ 0 < q) : remd j x q = ((48 + x % 10 : Nat) : Int) :: remd (j + 1) (x / 10) q := by
  unfold remd
  by_cases hq : 0 < q
  · rw [if_pos hq, if_pos hq, show 9 - j = (9 - (j + 1)) + 1 by omega, lows]
    rfl
  · rw [if_neg hq, if_neg hq, decs_pos (by omega)]
theorem remd_end9 (x q : Nat) (hx : 0 < q ∨ x = 0) : remd 9 x q = decs q := by
  unfold remd
  by_cases hq : 0 < q
  · rw [if_pos hq]; rfl
  · rw [if_neg hq, show q = 0 by omega, show x = 0 by omega]
theorem remd_end0 (j : Nat) : remd j 0 0 = decs 0 := by unfold remd; rw [if_neg (by omega)]
theorem remd_start (n : Nat) : decs n = remd 0 (n % 1000000000) (n / 1000000000) := by
  unfold remd
  by_cases hq : 0 < n / 1000000000
  · rw [if_pos hq, decs_limb n hq]
  · rw [if_neg hq, show n % 1000000000 = n by omega]

theorem decs_bytes (n : Nat) : ∀ x ∈ decs n, 48 ≤ x ∧ x ≤ 57 := by
  induction n using Nat.strongRecOn with
  | ind n ih =>
    rcases Nat.eq_zero_or_pos n with h0 | h0
    · subst h0; simp [decs_zero]
    · rw [decs_pos h0]
      intro x hx
      rcases List.mem_cons.1 hx with rfl | hx
      · omega
      · exact ih _ (by omega) x hx
theorem decs_at (n : Nat) : ∀ z, z < (decs n).length → (decs n).getD z 0 = ((48 + n / 10 ^ z % 10 : Nat) : Int) := by
  induction n using Nat.strongRecOn with
  | ind n ih =>
    intro z hz
    rcases Nat.eq_zero_or_pos n with h0 | h0
    · subst h0; simp [decs_zero] at hz
    · rw [decs_pos h0] at hz ⊢
      cases z with
      | zero => simp
      | succ z =>
        have := ih (n / 10) (by omega) z (by simpa using hz)
        rw [List.getD_cons_succ, this, Nat.pow_succ, Nat.mul_comm, Nat.div_div_eq_div_mul]

/-- The text of a number. -/
def text (n : Nat) : ByteArray := if n = 0 then ⟨#[48]⟩ else strOfNums (decs n).reverse
theorem text_size (n : Nat) (h : 0 < n) : (text n).size = (decs n).length := by
  unfold text
  rw [if_neg (by omega), strOfNums_size, List.length_reverse]

/-- Two lists turned round, from both ends to the middle. -/
structure Turned (xs ys : List Int) (i : Nat) : Prop where
  len : ys.length = xs.length
  out : ∀ k, k < xs.length → (k < i ∨ xs.length - 1 - i < k) → ys.getD k 0 = xs.getD (xs.length - 1 - k) 0
  mid : ∀ k, k < xs.length → i ≤ k → k ≤ xs.length - 1 - i → ys.getD k 0 = xs.getD k 0
theorem Turned.start (xs : List Int) : Turned xs xs 0 := ⟨rfl, fun k hk h => by omega, fun _ _ _ _ => rfl⟩
theorem getD_set (ys : List Int) (i k : Nat) (v : Int) (h : i < ys.length) : (ys.set i v).getD k 0 = if k = i then v else ys.getD k 0 := by
  rw [List.getD_eq_getElem?_getD, List.getD_eq_getElem?_getD, List.getElem?_set]
  by_cases e : i = k
  · subst e; simp [h]
  · rw [if_neg e, if_neg (by omega)]
theorem Turned.step {xs ys : List Int} {i : Nat} (h : Turned xs ys i) (hi : i < xs.length - 1 - i) :
    Turned xs ((ys.set i (ys.getD (xs.length - 1 - i) 0)).set (xs.length - 1 - i) (ys.getD i 0)) (i + 1) := by
  have hl := h.len
  have a := h.mid i (by omega) (by omega) (by omega)
  have b := h.mid (xs.length - 1 - i) (by omega) (by omega) (by omega)
  refine ⟨by simp [hl], fun k hk hc => ?_, fun k hk h1 h2 => ?_⟩
  · rw [getD_set _ _ _ _ (by simp; omega), getD_set _ _ _ _ (by omega)]
    by_cases e1 : k = xs.length - 1 - i
    · subst e1
      rw [if_pos rfl, a, show xs.length - 1 - (xs.length - 1 - i) = i by omega]
    · rw [if_neg e1]
      by_cases e2 : k = i
      · subst e2; rw [if_pos rfl, b]
      · rw [if_neg e2]
        exact h.out k hk (by omega)
  · rw [getD_set _ _ _ _ (by simp; omega), getD_set _ _ _ _ (by omega), if_neg (by omega), if_neg (by omega)]
    exact h.mid k hk (by omega) (by omega)
theorem Turned.done {xs ys : List Int} {i : Nat} (h : Turned xs ys i) (hi : ¬ i < xs.length - 1 - i) : ys = xs.reverse := by
  apply List.ext_getElem?
  intro k
  by_cases hk : k < xs.length
  · have hv : ys.getD k 0 = xs.getD (xs.length - 1 - k) 0 := by
      by_cases hc : k < i ∨ xs.length - 1 - i < k
      · exact h.out k hk hc
      · have e := h.mid k hk (by omega) (by omega)
        rw [e, show xs.length - 1 - k = k by omega]
    rw [List.getElem?_reverse hk]
    have hl := h.len
    rw [List.getD_eq_getElem?_getD, List.getD_eq_getElem?_getD, List.getElem?_eq_getElem (by omega), List.getElem?_eq_getElem (by omega)] at hv
    rw [List.getElem?_eq_getElem (by omega), List.getElem?_eq_getElem (by omega)]
    simpa using hv
  · rw [List.getElem?_eq_none (by have := h.len; omega), List.getElem?_eq_none (by simp; omega)]
end Go.Proofs.Ythkmgjkajllemaa.Num
