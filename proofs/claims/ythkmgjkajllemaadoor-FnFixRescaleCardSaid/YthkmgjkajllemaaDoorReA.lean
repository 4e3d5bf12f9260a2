/- Lemmas and contracts of functions for the theorem of YthkmgjkajllemaaDoorReE. -/
import Derived.WalkKit
import Derived.Laws.BytesArg
import Derived.Test.YthkmgjkajllemaaDoorPNatMulx1
import Derived.Test.YthkmgjkajllemaaDoorPPow10x1
import Derived.Test.YthkmgjkajllemaaDoorPNatCmpx1
import Derived.Test.YthkmgjkajllemaaDoorPnatShortx1
import Derived.Test.YthkmgjkajllemaaDoorPNatFromx
import Derived.Outline
import Derived.RegionTactic
import Derived.WalkSpells
import Derived.Test.YthkmgjkajllemaaDoorRows
import Derived.Below
import Derived.WideLaws
import Derived.Test.YthkmgjkajllemaaDoorPfixx
import Derived.Lib.Hide
import Derived.Deep.RegionWith
import Derived.Deep.RegionHeld3
import Derived.Test.YthkmgjkajllemaaDoorWRepsOne

/- Plain facts on numbers, their limbs of nine digits and their decimal digits; no program is in sight. -/
namespace Go.Proofs.YthkmgjkajllemaaDoor.Num
open Go.RowKit

/-- The limbs of a number, nine digits each, the lowest ones first. -/
def limbs (n : Nat) : List Int := if n = 0 then [] else ((n % 1000000000 : Nat) : Int) :: limbs (n / 1000000000)
termination_by n
decreasing_by omega

theorem limbs_zero : limbs 0 = [] := by unfold limbs; rfl
theorem limbs_pos {n : Nat} (h : 0 < n) : limbs n = ((n % 1000000000 : Nat) : Int) :: limbs (n / 1000000000) := by
  rw [limbs, if_neg (by omega)]
theorem limbs_nil {n : Nat} (h : limbs n = []) : n = 0 := by
  rcases Nat.eq_zero_or_pos n with h0 | h0
  · exact h0
  · rw [limbs_pos h0] at h; simp at h

/-- The decimal digits of a number as bytes, the lowest ones first. -/
def decs (n : Nat) : List Int := if n = 0 then [] else ((48 + n % 10 : Nat) : Int) :: decs (n / 10)
termination_by n
decreasing_by omega

theorem decs_zero : decs 0 = [] := by unfold decs; rfl
theorem decs_pos {n : Nat} (h : 0 < n) : decs n = ((48 + n % 10 : Nat) : Int) :: decs (n / 10) := by
  rw [decs, if_neg (by omega)]

/-- The lowest m decimal digits. -/
def lows : Nat → Nat → List Int
  | 0, _ => []
  | m + 1, n => ((48 + n % 10 : Nat) : Int) :: lows m (n / 10)

theorem lows_split (m : Nat) : ∀ (n : Nat), n < 10 ^ m → 0 < m → ∀ h : Nat, 0 < h → decs (h * 10 ^ m + n) = lows m n ++ decs h := by
  induction m with
  | zero => intro n _ h0; omega
  | succ m ih =>
    intro n hn _ h hh
    have hp : 0 < 10 ^ m := Nat.pow_pos (by decide)
    have e : h * 10 ^ (m + 1) + n = 10 * (h * 10 ^ m) + n := by rw [Nat.pow_succ, Nat.mul_comm (10 ^ m) 10, ← Nat.mul_assoc, Nat.mul_comm h 10, Nat.mul_assoc]
    have hhp : 0 < h * 10 ^ m := Nat.mul_pos hh hp
    rw [decs_pos (by rw [e]; omega), lows]
    have e1 : (h * 10 ^ (m + 1) + n) % 10 = n % 10 := by rw [e]; omega
    have e2 : (h * 10 ^ (m + 1) + n) / 10 = h * 10 ^ m + n / 10 := by rw [e]; omega
    rw [e1, e2]
    rcases Nat.eq_zero_or_pos m with h0 | h0
    · subst h0
      have : n / 10 = 0 := by simp at hn; omega
      simp [this, lows]
    · rw [ih (n / 10) (by rw [Nat.pow_succ] at hn; omega) h0 h hh]
      rfl

theorem decs_limb (n : Nat) (h : 0 < n / 1000000000) : decs n = lows 9 (n % 1000000000) ++ decs (n / 1000000000) := by
  have := lows_split 9 (n % 1000000000) (by omega) (by omega) (n / 1000000000) h
  rw [← this]
  congr 1
  omega

theorem decs_length (m : Nat) : ∀ n, n < 10 ^ m → (decs n).length ≤ m := by
  induction m with
  | zero =>
    intro n hn
    have : n = 0 := by simpa using hn
    subst this; simp [decs_zero]
  | succ m ih =>
    intro n hn
    rcases Nat.eq_zero_or_pos n with h0 | h0
    · subst h0; simp [decs_zero]
    · rw [decs_pos h0]
      have := ih (n / 10) (by rw [Nat.pow_succ] at hn; omega)
      simp; omega
theorem lows_length (m : Nat) : ∀ n, (lows m n).length = m := by
  induction m with
  | zero => intro n; rfl
  | succ m ih => intro n; simp [lows, ih]

theorem limbs_length (m : Nat) : ∀ n, n < 1000000000 ^ m → (limbs n).length ≤ m := by
  induction m with
  | zero =>
    intro n hn
    have : n = 0 := by simpa using hn
    subst this; simp [limbs_zero]
  | succ m ih =>
    intro n hn
    rcases Nat.eq_zero_or_pos n with h0 | h0
    · subst h0; simp [limbs_zero]
    · rw [limbs_pos h0]
      have := ih (n / 1000000000) (by rw [Nat.pow_succ] at hn; exact Nat.div_lt_of_lt_mul (by rw [Nat.mul_comm]; exact hn))
      simp; omega

/-- What is left of a number behind its i lowest limbs. -/
def rest (n i : Nat) : Nat := n / 1000000000 ^ i
theorem rest_zero (n : Nat) : rest n 0 = n := by unfold rest; simp
theorem rest_succ (n i : Nat) : rest n (i + 1) = rest n i / 1000000000 := by unfold rest; rw [Nat.pow_succ, Nat.div_div_eq_div_mul]
theorem limbs_drop (n : Nat) : ∀ i, (limbs n).drop i = limbs (rest n i) := by
  intro i
  induction i with
  | zero => rw [rest_zero]; rfl
  | succ i ih =>
    rw [rest_succ]
    have e : (limbs n).drop (i + 1) = ((limbs n).drop i).tail := by simp
    rw [e, ih]
    rcases Nat.eq_zero_or_pos (rest n i) with h0 | h0
    · rw [h0]; simp [limbs_zero]
    · rw [limbs_pos h0]; rfl
theorem limbs_at (n i : Nat) (h : i < (limbs n).length) : (limbs n).getD i 0 = ((rest n i % 1000000000 : Nat) : Int) ∧ 0 < rest n i := by
  have hd := limbs_drop n i
  have hpos : 0 < rest n i := by
    rcases Nat.eq_zero_or_pos (rest n i) with h0 | h0
    · rw [h0, limbs_zero] at hd
      have := congrArg List.length hd
      simp at this
      omega
    · exact h0
  refine ⟨?_, hpos⟩
  rw [limbs_pos hpos] at hd
  have := congrArg (fun t => t[0]?) hd
  simp [List.getElem?_drop] at this
  simp [this]
theorem rest_pos (n i : Nat) : i < (limbs n).length ↔ 0 < rest n i := by
  refine ⟨fun h => (limbs_at n i h).2, fun h => ?_⟩
  have hd := congrArg List.length (limbs_drop n i)
  rw [limbs_pos h] at hd
  simp at hd
  omega

/-- What is still to be written of the limb x at its digit j, and of the limbs q above it. -/
def remd (j x q : Nat) : List Int := if 0 < q then lows (9 - j) x ++ decs q else decs x
theorem remd_step (j x q : Nat) (hj : j < 9) (h : 0 < x ∨ 0 < q) : remd j x q = ((48 + x % 10 : Nat) : Int) :: remd (j + 1) (x / 10) q := by
  unfold remd
  by_cases hq : 0 < q
  · rw [if_pos hq, if_pos hq, show 9 - j = (9 - (j + 1)) + 1 by omega, lows]
    rfl
  · rw [if_neg hq, if_neg hq, decs_pos (by omega)]
theorem remd_end9 (x q : Nat) (hx : 0 < q ∨ x = 0) : remd 9 x q = decs q := by
  unfold remd
  by_cases hq : 0 < q
  · rw [if_pos hq]; rfl
  · rw [if_neg hq, show q = 0 by omega, show x = 0 by omega]
theorem remd_end0 (j : Nat) : remd j 0 0 = decs 0 := by unfold remd; rw [if_neg (by omega)]
theorem remd_start (n : Nat) : decs n = remd 0 (n % 1000000000) (n / 1000000000) := by
  unfold remd
  by_cases hq : 0 < n / 1000000000
  · rw [if_pos hq, decs_limb n hq]
  · rw [if_neg hq, show n % 1000000000 = n by omega]

theorem decs_bytes (n : Nat) : ∀ x ∈ decs n, 48 ≤ x ∧ x ≤ 57 := by
  induction n using Nat.strongRecOn with
  | ind n ih =>
    rcases Nat.eq_zero_or_pos n with h0 | h0
    · subst h0; simp [decs_zero]
    · rw [decs_pos h0]
      intro x hx
      rcases List.mem_cons.1 hx with rfl | hx
      · omega
      · exact ih _ (by omega) x hx
theorem decs_at (n : Nat) : ∀ z, z < (decs n).length → (decs n).getD z 0 = ((48 + n / 10 ^ z % 10 : Nat) : Int) := by
  induction n using Nat.strongRecOn with
  | ind n ih =>
    intro z hz
    rcases Nat.eq_zero_or_pos n with h0 | h0
    · subst h0; simp [decs_zero] at hz
    · rw [decs_pos h0] at hz ⊢
      cases z with
      | zero => simp
      | succ z =>
        have := ih (n / 10) (by omega) z (by simpa using hz)
        rw [List.getD_cons_succ, this, Nat.pow_succ, Nat.mul_comm, Nat.div_div_eq_div_mul]

/-- The text of a number. -/
def text (n : Nat) : ByteArray := if n = 0 then ⟨#[48]⟩ else strOfNums (decs n).reverse
theorem text_size (n : Nat) (h : 0 < n) : (text n).size = (decs n).length := by
  unfold text
  rw [if_neg (by omega), strOfNums_size, List.length_reverse]

/-- Two lists turned round, from both ends to the middle. -/
structure Turned (xs ys : List Int) (i : Nat) : Prop where
  len : ys.length = xs.length
  out : ∀ k, k < xs.length → (k < i ∨ xs.length - 1 - i < k) → ys.getD k 0 = xs.getD (xs.length - 1 - k) 0
  mid : ∀ k, k < xs.length → i ≤ k → k ≤ xs.length - 1 - i → ys.getD k 0 = xs.getD k 0
theorem Turned.start (xs : List Int) : Turned xs xs 0 := ⟨rfl, fun k hk h => by omega, fun _ _ _ _ => rfl⟩
theorem getD_set (ys : List Int) (i k : Nat) (v : Int) (h : i < ys.length) : (ys.set i v).getD k 0 = if k = i then v else ys.getD k 0 := by
  rw [List.getD_eq_getElem?_getD, List.getD_eq_getElem?_getD, List.getElem?_set]
  by_cases e : i = k
  · subst e; simp [h]
  · rw [if_neg e, if_neg (by omega)]
theorem Turned.step {xs ys : List Int} {i : Nat} (h : Turned xs ys i) (hi : i < xs.length - 1 - i) :
    Turned xs ((ys.set i (ys.getD (xs.length - 1 - i) 0)).set (xs.length - 1 - i) (ys.getD i 0)) (i + 1) := by
  have hl := h.len
  have a := h.mid i (by omega) (by omega) (by omega)
  have b := h.mid (xs.length - 1 - i) (by omega) (by omega) (by omega)
  refine ⟨by simp [hl], fun k hk hc => ?_, fun k hk h1 h2 => ?_⟩
  · rw [getD_set _ _ _ _ (by simp; omega), getD_set _ _ _ _ (by omega)]
    by_cases e1 : k = xs.length - 1 - i
    · subst e1
      rw [if_pos rfl, a, show xs.length - 1 - (xs.length - 1 - i) = i by omega]
    · rw [if_neg e1]
      by_cases e2 : k = i
      · subst e2; rw [if_pos rfl, b]
      · rw [if_neg e2]
        exact h.out k hk (by omega)
  · rw [getD_set _ _ _ _ (by simp; omega), getD_set _ _ _ _ (by omega), if_neg (by omega), if_neg (by omega)]
    exact h.mid k hk (by omega) (by omega)
theorem Turned.done {xs ys : List Int} {i : Nat} (h : Turned xs ys i) (hi : ¬ i < xs.length - 1 - i) : ys = xs.reverse := by
  apply List.ext_getElem?
  intro k
  by_cases hk : k < xs.length
  · have hv : ys.getD k 0 = xs.getD (xs.length - 1 - k) 0 := by
      by_cases hc : k < i ∨ xs.length - 1 - i < k
      · exact h.out k hk hc
      · have e := h.mid k hk (by omega) (by omega)
        rw [e, show xs.length - 1 - k = k by omega]
    rw [List.getElem?_reverse hk]
    have hl := h.len
    rw [List.getD_eq_getElem?_getD, List.getD_eq_getElem?_getD, List.getElem?_eq_getElem (by omega), List.getElem?_eq_getElem (by omega)] at hv
    rw [List.getElem?_eq_getElem (by omega), List.getElem?_eq_getElem (by omega)]
    simpa using hv
  · rw [List.getElem?_eq_none (by have := h.len; omega), List.getElem?_eq_none (by simp; omega)]
end Go.Proofs.YthkmgjkajllemaaDoor.Num

/- What lists of limbs are worth, and how that turns when one limb is set; plain facts, no program is in sight. -/
namespace Go.Proofs.YthkmgjkajllemaaDoor.Val
open Go.RowKit Go.Proofs.YthkmgjkajllemaaDoor.Num
set_option linter.unusedVariables false
set_option linter.unusedSimpArgs false

/-- What a list of limbs is worth. -/
def val : List Int → Int
  | [] => 0
  | x :: l => x + (1000000000 : Int) * val l
/-- All limbs are limbs. -/
def Digs (l : List Int) : Prop := ∀ k, 0 ≤ l.getD k 0 ∧ l.getD k 0 < (1000000000 : Int)

theorem Digs.nil : Digs [] := fun k => by simp
theorem Digs.tail {x : Int} {l : List Int} (h : Digs (x :: l)) : Digs l := fun k => by have := h (k + 1); simpa using this
theorem Digs.head {x : Int} {l : List Int} (h : Digs (x :: l)) : 0 ≤ x ∧ x < (1000000000 : Int) := by have := h 0; simpa using this
theorem Digs.cons {x : Int} {l : List Int} (h0 : 0 ≤ x) (h1 : x < (1000000000 : Int)) (h : Digs l) : Digs (x :: l) := fun k => by
  cases k with
  | zero => simpa using ⟨h0, h1⟩
  | succ k => simpa using h k
theorem Digs.set {l : List Int} (h : Digs l) (i : Nat) {v : Int} (h0 : 0 ≤ v) (h1 : v < (1000000000 : Int)) : Digs (l.set i v) := fun k => by
  by_cases hi : i < l.length
  · rw [getD_set _ _ _ _ hi]
    split
    · exact ⟨h0, h1⟩
    · exact h k
  · rw [List.set_eq_of_length_le (by omega)]
    exact h k
theorem Digs.zeros (n : Nat) : Digs (List.replicate n 0) := fun k => by
  rw [List.getD_eq_getElem?_getD, List.getElem?_replicate]
  split <;> simp
theorem Digs.append {l r : List Int} (h : Digs l) (k : Digs r) : Digs (l ++ r) := by
  induction l with
  | nil => exact k
  | cons x l ih => exact Digs.cons h.head.1 h.head.2 (ih h.tail)
theorem Digs.one {x : Int} (h0 : 0 ≤ x) (h1 : x < (1000000000 : Int)) : Digs [x] := Digs.cons h0 h1 Digs.nil
theorem Digs.take {l : List Int} (h : Digs l) (n : Nat) : Digs (l.take n) := fun k => by
  rw [List.getD_eq_getElem?_getD, List.getElem?_take]
  split
  · exact h k
  · simp

theorem val_nonneg : ∀ {l : List Int}, Digs l → 0 ≤ val l
  | [], _ => Int.le_refl _
  | x :: l, h => by
    have := val_nonneg h.tail
    have := h.head
    unfold val
    omega
theorem val_append (l r : List Int) : val (l ++ r) = val l + (1000000000 : Int) ^ l.length * val r := by
  induction l with
  | nil => simp [val]
  | cons x l ih =>
    simp only [List.cons_append, val, List.length_cons, ih, Int.pow_succ]
    grind
theorem val_set : ∀ (l : List Int) (i : Nat) (v : Int), i < l.length → val (l.set i v) = val l + (1000000000 : Int) ^ i * (v - l.getD i 0)
  | x :: l, 0, v, _ => by simp [val]; omega
  | x :: l, i + 1, v, h => by
    simp only [List.set_cons_succ, val, List.getD_cons_succ, Int.pow_succ]
    rw [val_set l i v (by simpa using h)]
    grind
theorem val_zeros (n : Nat) : val (List.replicate n 0) = 0 := by
  induction n with
  | zero => rfl
  | succ n ih => simp [List.replicate_succ, val, ih]
theorem pow_pos (n : Nat) : 0 < (1000000000 : Int) ^ n := Int.pow_pos (by decide)
theorem val_lt : ∀ {l : List Int}, Digs l → val l < (1000000000 : Int) ^ l.length
  | [], _ => by simp [val]
  | x :: l, h => by
    have h1 := val_lt h.tail
    have := h.head
    simp only [val, List.length_cons, Int.pow_succ]
    omega
theorem val_take_succ (l : List Int) (n : Nat) (h : n < l.length) : val (l.take (n + 1)) = val (l.take n) + (1000000000 : Int) ^ n * l.getD n 0 := by
  rw [List.take_succ_eq_append_getElem h, val_append, List.getD_eq_getElem?_getD, List.getElem?_eq_getElem h]
  simp [val, Nat.min_eq_left (Nat.le_of_lt h)]

theorem digs_limbs (n : Nat) : Digs (limbs n) := by
  induction n using Nat.strongRecOn with
  | ind n ih =>
    rcases Nat.eq_zero_or_pos n with h | h
    · subst h; rw [limbs_zero]; exact Digs.nil
    · rw [limbs_pos h]
      exact Digs.cons (by omega) (by show _ < (1000000000 : Int); omega) (ih _ (by omega))
theorem val_limbs (n : Nat) : val (limbs n) = n := by
  induction n using Nat.strongRecOn with
  | ind n ih =>
    rcases Nat.eq_zero_or_pos n with h | h
    · subst h; rw [limbs_zero]; rfl
    · rw [limbs_pos h, val, ih _ (by omega)]
      show _ + (1000000000 : Int) * _ = _
      omega
/-- A list of limbs whose last one is not 0 is that of its worth. -/
theorem limbs_val : ∀ {l : List Int}, Digs l → (∀ h : l ≠ [], l.getLast h ≠ 0) → limbs (val l).toNat = l
  | [], _, _ => by simp [val, limbs_zero]
  | [x], h, hl => by
    have h0 := h.head
    have hx : x ≠ 0 := by simpa using hl (by simp)
    obtain ⟨n, rfl⟩ := Int.eq_ofNat_of_zero_le h0.1
    have h1 : (n : Int) < 1000000000 := h0.2
    simp only [val]
    rw [show ((n : Int) + (1000000000 : Int) * 0).toNat = n by omega, limbs_pos (by omega), show n / 1000000000 = 0 by omega, limbs_zero]
    rw [show n % 1000000000 = n by omega]
  | x :: y :: l, h, hl => by
    have ih := limbs_val h.tail (fun hne => by have := hl (by simp); simpa using this)
    have h0 := h.head
    obtain ⟨n, rfl⟩ := Int.eq_ofNat_of_zero_le h0.1
    obtain ⟨m, hm⟩ := Int.eq_ofNat_of_zero_le (val_nonneg h.tail)
    have h1 : (n : Int) < 1000000000 := h0.2
    have hpos : 0 < m := by
      rcases Nat.eq_zero_or_pos m with hz | hz
      · subst hz
        rw [hm] at ih
        simp [limbs_zero] at ih
      · exact hz
    rw [val, hm]
    rw [hm, Int.toNat_natCast] at ih
    rw [show ((n : Int) + (1000000000 : Int) * m).toNat = n + 1000000000 * m by show (_ + (1000000000 : Int) * _).toNat = _; omega, limbs_pos (by omega)]
    rw [show (n + 1000000000 * m) % 1000000000 = n by omega, show (n + 1000000000 * m) / 1000000000 = m by omega, ih]
/-- A list of limbs without zeros at its end. -/
def trim (l : List Int) : List Int := limbs (val l).toNat
theorem trim_append_zero (l : List Int) : trim (l ++ [0]) = trim l := by
  unfold trim
  rw [val_append]
  simp [val]
theorem limbs_len_lt (a b : Nat) (h : (limbs a).length < (limbs b).length) : a < b := by
  have h1 := val_lt (digs_limbs a)
  rw [val_limbs] at h1
  have hp := (limbs_at b (limbs a).length h).2
  have h2 : 1000000000 ^ (limbs a).length ≤ b := by
    unfold rest at hp
    have := Nat.div_add_mod b (1000000000 ^ (limbs a).length)
    have h3 : 1000000000 ^ (limbs a).length * 1 ≤ 1000000000 ^ (limbs a).length * (b / 1000000000 ^ (limbs a).length) := Nat.mul_le_mul_left _ hp
    omega
  have h3 : (a : Int) < ((1000000000 ^ (limbs a).length : Nat) : Int) := by
    rw [Int.natCast_pow]; exact h1
  omega
theorem rest_step (n i : Nat) : rest n i = rest n i % 1000000000 + 1000000000 * rest n (i + 1) := by rw [rest_succ]; omega
theorem rest_done (n : Nat) : rest n (limbs n).length = 0 := by
  rcases Nat.eq_zero_or_pos (rest n (limbs n).length) with h | h
  · exact h
  · exact absurd ((rest_pos n _).2 h) (Nat.lt_irrefl _)
theorem limbs_getD (n i : Nat) : (limbs n).getD i 0 = ((rest n i % 1000000000 : Nat) : Int) := by
  by_cases h : i < (limbs n).length
  · exact (limbs_at n i h).1
  · have h0 : rest n i = 0 := by
      rcases Nat.eq_zero_or_pos (rest n i) with h1 | h1
      · exact h1
      · exact absurd ((rest_pos n i).2 h1) h
    rw [h0, List.getD_eq_getElem?_getD, List.getElem?_eq_none (by omega)]
    rfl
/-- A product of two limbs, and two limbs beside it, are less than the square. -/
theorem mul_room {x y o c : Int} (x0 : 0 ≤ x) (x1 : x < (1000000000 : Int)) (y0 : 0 ≤ y) (y1 : y < (1000000000 : Int)) (o0 : 0 ≤ o) (o1 : o < (1000000000 : Int)) (c0 : 0 ≤ c) (c1 : c < (1000000000 : Int)) : 0 ≤ x * y ∧ x * y < 1000000000000000000 ∧ 0 ≤ c + (o + x * y) ∧ c + (o + x * y) < 1000000000000000000 := by
  have h0 := Int.mul_nonneg x0 y0
  have h1 : x * y ≤ 999999999 * y := Int.mul_le_mul_of_nonneg_right (by show x ≤ 999999999; omega) y0
  omega
end Go.Proofs.YthkmgjkajllemaaDoor.Val

/- What the reference's functions on natural numbers compute: product, power of ten, comparison, division by one limb; plain facts on the printed functions. -/
namespace Go.Proofs.YthkmgjkajllemaaDoor.Arith
open Go.RowKit Go.Proofs.YthkmgjkajllemaaDoorW.PrintWords Go.Proofs.YthkmgjkajllemaaDoor.Num Go.Proofs.YthkmgjkajllemaaDoor.Val
set_option linter.unusedVariables false
set_option linter.unusedSimpArgs false

theorem w64 (n : Nat) (h : n < 9223372036854775808) : wrap64 (n : Int) = n := by unfold wrap64; omega
theorem w64' (x : Int) (h : -9223372036854775808 ≤ x) (h2 : x < 9223372036854775808) : wrap64 x = x := by unfold wrap64; omega
theorem rd_nat (l : List Int) (n : Nat) : rd l (n : Int) = l.getD n 0 := by unfold rd; rw [Int.toNat_natCast]

theorem last_of (l : List Int) (n : Nat) (h : l.length = n + 1) (hne : l ≠ []) : l.getLast hne = l.getD n 0 := by
  rw [List.getLast_eq_getElem, List.getD_eq_getElem?_getD, List.getElem?_eq_getElem (by omega)]
  simp [h]
theorem split_last (l : List Int) (n : Nat) (h : l.length = n + 1) (h0 : l.getD n 0 = 0) : l = l.take n ++ [0] := by
  have h1 := List.take_append_drop n l
  rw [List.drop_eq_getElem_cons (by omega : n < l.length), List.drop_eq_nil_of_le (by omega : l.length ≤ n + 1)] at h1
  rw [List.getD_eq_getElem?_getD, List.getElem?_eq_getElem (by omega : n < l.length), Option.getD_some] at h0
  rw [h0] at h1
  exact h1.symm

theorem natTrim_go : ∀ (n : Nat) (l : List Int) (k : Nat), l.length = n → Digs l → n < k → n < 4611686018427387904 → PNatMul.spec_natTrim.l0 k l = some (trim l) := by
  intro n
  induction n with
  | zero =>
    intro l k hl hd hk hb
    obtain ⟨k, rfl⟩ : ∃ m, k = m + 1 := ⟨k - 1, by omega⟩
    have : l = [] := List.length_eq_zero_iff.1 hl
    subst this
    simp [PNatMul.spec_natTrim.l0, trim, val, limbs_zero]
  | succ n ih =>
    intro l k hl hd hk hb
    obtain ⟨k, rfl⟩ : ∃ m, k = m + 1 := ⟨k - 1, by omega⟩
    have hne : l ≠ [] := by intro h; rw [h] at hl; simp at hl
    have e : wrap64 ((l.length : Int) - 1) = n := by rw [hl, w64' _ (by omega) (by omega)]; omega
    rw [PNatMul.spec_natTrim.l0, e, if_pos (by omega), if_pos (by omega), if_pos (by omega), rd_nat]
    by_cases h0 : l.getD n 0 = 0
    · rw [if_pos h0, if_pos (by omega), Int.toNat_natCast, ih (l.take n) k (by rw [List.length_take]; omega) (hd.take n) (by omega) (by omega)]
      conv => rhs; rw [split_last l n hl h0, trim_append_zero]
    · rw [if_neg h0]
      refine congrArg some ?_
      unfold trim
      exact (limbs_val hd (fun h => by rw [last_of l n hl h]; exact h0)).symm
theorem natTrim_go' : ∀ (n : Nat) (l : List Int) (k : Nat), l.length = n → Digs l → n < k → n < 4611686018427387904 → PnatShort.spec_natTrim.l0 k l = some (trim l) := by
  intro n
  induction n with
  | zero =>
    intro l k hl hd hk hb
    obtain ⟨k, rfl⟩ : ∃ m, k = m + 1 := ⟨k - 1, by omega⟩
    have : l = [] := List.length_eq_zero_iff.1 hl
    subst this
    simp [PnatShort.spec_natTrim.l0, trim, val, limbs_zero]
  | succ n ih =>
    intro l k hl hd hk hb
    obtain ⟨k, rfl⟩ : ∃ m, k = m + 1 := ⟨k - 1, by omega⟩
    have hne : l ≠ [] := by intro h; rw [h] at hl; simp at hl
    have e : wrap64 ((l.length : Int) - 1) = n := by rw [hl, w64' _ (by omega) (by omega)]; omega
    rw [PnatShort.spec_natTrim.l0, e, if_pos (by omega), if_pos (by omega), if_pos (by omega), rd_nat]
    by_cases h0 : l.getD n 0 = 0
    · rw [if_pos h0, if_pos (by omega), Int.toNat_natCast, ih (l.take n) k (by rw [List.length_take]; omega) (hd.take n) (by omega) (by omega)]
      conv => rhs; rw [split_last l n hl h0, trim_append_zero]
    · rw [if_neg h0]
      refine congrArg some ?_
      unfold trim
      exact (limbs_val hd (fun h => by rw [last_of l n hl h]; exact h0)).symm

/-- How far the product has come: the first i limbs of a are multiplied. -/
structure Mul (a b out : List Int) (i : Nat) : Prop where
  len : out.length = a.length + b.length
  digs : Digs out
  worth : val out = val (a.take i) * val b
  zero : ∀ k, i + b.length ≤ k → out.getD k 0 = 0
/-- Within limb i: j limbs of b are multiplied, the carry is c. -/
structure MulIn (a b out : List Int) (i j : Nat) (x c : Int) : Prop where
  len : out.length = a.length + b.length
  digs : Digs out
  c0 : 0 ≤ c
  c1 : c < (1000000000 : Int)
  worth : val out + c * (1000000000 : Int) ^ (i + j) = val (a.take i) * val b + (1000000000 : Int) ^ i * x * val (b.take j)
  zero : ∀ k, i + b.length ≤ k → out.getD k 0 = 0
theorem MulIn.step {a b out : List Int} {i j : Nat} {x c y t : Int} (h : MulIn a b out i j x c) (hi : i < a.length) (hj : j < b.length) (hb : Digs b) (x0 : 0 ≤ x) (x1 : x < (1000000000 : Int)) (hy : b.getD j 0 = y)
    (ht : t = c + (out.getD (i + j) 0 + x * y)) : MulIn a b (out.set (i + j) (t % 1000000000)) i (j + 1) x (t / 1000000000) := by
  have hyb := hb j
  rw [hy] at hyb
  have ho := h.digs (i + j)
  obtain ⟨m1, m2, m3, m4⟩ := mul_room x0 x1 hyb.1 hyb.2 ho.1 ho.2 h.c0 h.c1
  rw [← ht] at m3 m4
  have hlen := h.len
  refine ⟨by simp [hlen], h.digs.set _ (by omega) (by show _ < (1000000000 : Int); omega), by omega, by show _ < (1000000000 : Int); omega, ?_, fun k hk => ?_⟩
  · rw [val_set _ _ _ (by omega), val_take_succ b j hj, hy]
    have hw := h.worth
    have e : t % 1000000000 = t - (1000000000 : Int) * (t / 1000000000) := by omega
    rw [e]
    generalize t / 1000000000 = q at *
    have e2 : (1000000000 : Int) ^ (i + (j + 1)) = (1000000000 : Int) ^ (i + j) * 1000000000 := Int.pow_succ _ _
    have e3 : (1000000000 : Int) ^ (i + j) = (1000000000 : Int) ^ i * (1000000000 : Int) ^ j := Int.pow_add _ _ _
    rw [e2]
    rw [e3] at hw ⊢
    generalize (1000000000 : Int) ^ i = P at *
    generalize (1000000000 : Int) ^ j = Q at *
    grind
  · rw [getD_set _ _ _ _ (by omega), if_neg (by omega)]
    exact h.zero k hk
theorem MulIn.done {a b out : List Int} {i : Nat} {x c : Int} (h : MulIn a b out i b.length x c) (hi : i < a.length) (hx : a.getD i 0 = x) : Mul a b (out.set (i + b.length) c) (i + 1) := by
  have hlen := h.len
  refine ⟨by simp [hlen], h.digs.set _ h.c0 h.c1, ?_, fun k hk => ?_⟩
  · rw [val_set _ _ _ (by omega), h.zero _ (Nat.le_refl _), val_take_succ a i hi, hx]
    have hw := h.worth
    rw [List.take_length] at hw
    generalize (1000000000 : Int) ^ (i + b.length) = P at *
    generalize (1000000000 : Int) ^ i = Q at *
    grind
  · rw [getD_set _ _ _ _ (by omega), if_neg (by omega)]
    exact h.zero k (by omega)
theorem Mul.enter {a b out : List Int} {i : Nat} (h : Mul a b out i) (x : Int) : MulIn a b out i 0 x 0 :=
  ⟨h.len, h.digs, Int.le_refl _, by show (0 : Int) < 1000000000; omega, by rw [h.worth]; simp [val], h.zero⟩

theorem mul_l1 (k : Nat) (x1 x5 : List Int) (x6 x7 x8 : Int) (x17 : List Int) (x18 x19 : Int) (x24 : List Int) (x25 x26 : Int) (y o t : Int) (p : Nat)
    (h1 : x26 < x25) (h2 : 0 ≤ x26) (h3 : x26 < (x24.length : Int)) (h4 : wrap64 (x6 + x26) = (p : Int)) (h5 : (p : Int) < (x5.length : Int)) (hy : rd x24 x26 = y) (ho : rd x5 (p : Int) = o)
    (ht : IntKind.u64.wrap (x8 + (IntKind.u64.wrap ((IntKind.u64.wrap o) + (IntKind.u64.wrap ((IntKind.u64.wrap (x7)) * (IntKind.u64.wrap y)))))) = t) :
    PNatMul.spec_NatMul.l1 (k + 1) x1 x5 x6 x7 x8 x17 x18 x19 x24 x25 x26 = PNatMul.spec_NatMul.l1 k x1 (x5.set p ((Int.tmod t 1000000000) % 4294967296)) x6 x7 (IntKind.u64.wrap (Int.tdiv t 1000000000)) x17 x18 x19 x24 x25 (wrap64 (x26 + 1)) := by
  rw [PNatMul.spec_NatMul.l1]
  simp only [h1, h2, h3, h4, h5, hy, ho, ht, if_true, Int.toNat_natCast, show (0 : Int) ≤ (p : Int) from by omega]
theorem natMul_in (a b : List Int) (ha : Digs a) (hb : Digs b) (hla : a.length < 1000000) (hlb : b.length < 1000000) (i : Nat) (hi : i < a.length) (x : Int) (hx : a.getD i 0 = x) (k : Nat) :
    ∀ (d j : Nat) (out : List Int) (c : Int), j + d = b.length → MulIn a b out i j x c →
      ∃ out', Mul a b out' (i + 1) ∧ PNatMul.spec_NatMul.l1 (k + d + 1) b out i x c a a.length i b b.length j = PNatMul.spec_NatMul.l0 k b out' a a.length ((i + 1 : Nat) : Int) := by
  have hxb := ha i
  rw [hx] at hxb
  intro d
  induction d with
  | zero =>
    intro j out c hj h
    obtain rfl : j = b.length := by omega
    have hlen := h.len
    have e1 : wrap64 ((i : Int) + (b.length : Int)) = ((i + b.length : Nat) : Int) := by rw [w64' _ (by omega) (by omega)]; omega
    have e2 : wrap64 ((i : Int) + 1) = ((i + 1 : Nat) : Int) := by rw [w64' _ (by omega) (by omega)]; omega
    have e3 : c % 4294967296 = c := by have := h.c0; have h1 : c < 1000000000 := h.c1; omega
    refine ⟨_, h.done hi hx, ?_⟩
    rw [PNatMul.spec_NatMul.l1, if_neg (by omega), e1, e2, e3, if_pos (by omega), if_pos (by omega), Int.toNat_natCast]
  | succ d ih =>
    intro j out c hj h
    have hlen := h.len
    obtain ⟨y, hy⟩ : ∃ y, b.getD j 0 = y := ⟨_, rfl⟩
    have hyb := hb j
    have ho := h.digs (i + j)
    rw [hy] at hyb
    obtain ⟨o, hod⟩ : ∃ o, out.getD (i + j) 0 = o := ⟨_, rfl⟩
    rw [hod] at ho
    obtain ⟨m1, m2, m3, m4⟩ := mul_room hxb.1 hxb.2 hyb.1 hyb.2 ho.1 ho.2 h.c0 h.c1
    obtain ⟨t, ht⟩ : ∃ t, c + (o + x * y) = t := ⟨_, rfl⟩
    have hs := h.step hi (by omega) hb hxb.1 hxb.2 hy (t := t) (by rw [hod]; exact ht.symm)
    obtain ⟨out', hm, he⟩ := ih (j + 1) _ _ (by omega) hs
    refine ⟨out', hm, ?_⟩
    have k1 : (j : Int) < (b.length : Int) := by omega
    have k2 : ((i + j : Nat) : Int) < (out.length : Int) := by omega
    have k3 : (0 : Int) ≤ (j : Int) := by omega
    have e1 : wrap64 ((i : Int) + (j : Int)) = ((i + j : Nat) : Int) := by rw [w64' _ (by omega) (by omega)]; omega
    have e2 : wrap64 ((j : Int) + 1) = ((j + 1 : Nat) : Int) := by rw [w64' _ (by omega) (by omega)]; omega
    have o1 : o < 1000000000 := ho.2
    have x1 : x < 1000000000 := hxb.2
    have y1 : y < 1000000000 := hyb.2
    have c1 : c < 1000000000 := h.c1
    have e3 : IntKind.u64.wrap (c + (IntKind.u64.wrap ((IntKind.u64.wrap o) + (IntKind.u64.wrap ((IntKind.u64.wrap x) * (IntKind.u64.wrap y)))))) = t := by
      rw [IntWalk.u64_in o ⟨ho.1, by omega⟩, IntWalk.u64_in x ⟨hxb.1, by omega⟩, IntWalk.u64_in y ⟨hyb.1, by omega⟩, IntWalk.u64_in (x * y) ⟨m1, by omega⟩, IntWalk.u64_in (o + x * y) ⟨by omega, by omega⟩, ht, IntWalk.u64_in t ⟨by omega, by omega⟩]
    have e4 : Int.tmod t 1000000000 % 4294967296 = t % 1000000000 := by rw [Int.tmod_eq_emod_of_nonneg (by omega)]; omega
    have e5 : IntKind.u64.wrap (Int.tdiv t 1000000000) = t / 1000000000 := by rw [Int.tdiv_eq_ediv_of_nonneg (by omega), IntWalk.u64_in _ ⟨by omega, by omega⟩]
    rw [show k + (d + 1) + 1 = (k + d + 1) + 1 by omega, mul_l1 (k + d + 1) b out i x c a a.length i b b.length j y o t (i + j) k1 k3 k1 e1 k2 (by rw [rd_nat]; exact hy) (by rw [rd_nat]; exact hod) e3, e4, e5, e2]
    exact he

theorem natMul_go (a b : List Int) (ha : Digs a) (hb : Digs b) (hla : a.length < 1000000) (hlb : b.length < 1000000) :
    ∀ (d i : Nat) (out : List Int) (k : Nat), i + d = a.length → Mul a b out i → d * (b.length + 2) + (a.length + b.length + 2) ≤ k →
      PNatMul.spec_NatMul.l0 k b out a a.length (i : Int) = some (limbs (val a * val b).toNat) := by
  intro d
  induction d with
  | zero =>
    intro i out k hi h hk
    obtain rfl : i = a.length := by omega
    obtain ⟨k, rfl⟩ : ∃ m, k = m + 1 := ⟨k - 1, by omega⟩
    have hlen := h.len
    rw [PNatMul.spec_NatMul.l0, if_neg (by omega)]
    unfold PNatMul.spec_natTrim.f
    rw [natTrim_go _ out k rfl h.digs (by omega) (by omega)]
    have hw := h.worth
    rw [List.take_length] at hw
    simp only [Option.bind_some, trim, hw]
  | succ d ih =>
    intro i out k hi h hk
    rw [Nat.succ_mul] at hk
    obtain ⟨k, rfl⟩ : ∃ m, k = m + b.length + 1 + 1 := ⟨k - (b.length + 2), by omega⟩
    have hilt : i < a.length := by omega
    rw [PNatMul.spec_NatMul.l0, if_pos (by omega), if_pos (by omega), if_pos (by omega), rd_nat]
    obtain ⟨out', hm, he⟩ := natMul_in a b ha hb hla hlb i hilt _ rfl k b.length 0 out 0 (by omega) (h.enter _)
    refine Eq.trans he ?_
    exact ih (i + 1) out' k (by omega) hm (by omega)

theorem Mul.start (a b : List Int) : Mul a b (List.replicate (a.length + b.length) 0) 0 :=
  ⟨by simp, Digs.zeros _, by rw [val_zeros]; simp [val], fun k hk => by rw [List.getD_eq_getElem?_getD, List.getElem?_replicate]; split <;> simp⟩
theorem natMul_f (m n : Nat) (hm : (limbs m).length < 1000000) (hn : (limbs n).length < 1000000) :
    ∃ k, PNatMul.spec_NatMul.f k (limbs m) (limbs n) = some (limbs (m * n)) := by
  obtain ⟨K, hK⟩ : ∃ K, (limbs m).length * ((limbs n).length + 2) + ((limbs m).length + (limbs n).length + 2) = K := ⟨_, rfl⟩
  refine ⟨K, ?_⟩
  have e : wrap64 (((limbs m).length : Int) + ((limbs n).length : Int)) = (((limbs m).length + (limbs n).length : Nat) : Int) := by rw [w64' _ (by omega) (by omega)]; omega
  unfold PNatMul.spec_NatMul.f
  rw [e, if_pos (by omega), Int.toNat_natCast, if_pos (by omega)]
  have h := natMul_go (limbs m) (limbs n) (digs_limbs m) (digs_limbs n) hm hn (limbs m).length 0 (List.replicate ((limbs m).length + (limbs n).length) 0) K (Nat.zero_add _) (Mul.start _ _) (Nat.le_of_eq hK)
  rw [val_limbs, val_limbs, ← Int.natCast_mul, Int.toNat_natCast, show ((0 : Nat) : Int) = 0 from rfl] at h
  exact h

/-- Pow10: the limbs of a power of ten. -/
theorem pow10_go (n : Nat) : ∀ (d i : Nat) (out : List Int) (k : Nat), i + d = n % 9 → d < k → out.length = n / 9 + 1 → n < 1000000 →
    PPow10.spec_Pow10.l0 k n out ((10 ^ i : Nat) : Int) (i : Int) = some (out.set (n / 9) ((10 ^ (n % 9) : Nat) : Int)) := by
  intro d
  have et : Int.tmod (n : Int) 9 = ((n % 9 : Nat) : Int) := by rw [Int.tmod_eq_emod_of_nonneg (by omega)]; omega
  induction d with
  | zero =>
    intro i out k hi hk hl hn
    obtain rfl : i = n % 9 := by omega
    obtain ⟨k, rfl⟩ : ∃ m, k = m + 1 := ⟨k - 1, by omega⟩
    have e1 : wrap64 (Int.tdiv (n : Int) 9) = ((n / 9 : Nat) : Int) := by rw [Int.tdiv_eq_ediv_of_nonneg (by omega), w64' _ (by omega) (by omega)]; omega
    rw [PPow10.spec_Pow10.l0, et, if_neg (by omega), e1, if_pos (by omega), if_pos (by omega), Int.toNat_natCast]
  | succ d ih =>
    intro i out k hi hk hl hn
    obtain ⟨k, rfl⟩ : ∃ m, k = m + 1 := ⟨k - 1, by omega⟩
    have hp : 10 ^ i < 10 ^ 8 := Nat.pow_lt_pow_right (by decide) (by omega)
    have e1 : wrap64 ((i : Int) + 1) = ((i + 1 : Nat) : Int) := by rw [w64' _ (by omega) (by omega)]; omega
    have e2 : (((10 ^ i : Nat) : Int) * 10) % 4294967296 = ((10 ^ (i + 1) : Nat) : Int) := by rw [Nat.pow_succ]; omega
    rw [PPow10.spec_Pow10.l0, et, if_pos (by omega), e1, e2]
    exact ih (i + 1) out k (by omega) (by omega) hl hn
theorem pow10_limbs (n : Nat) : (List.replicate (n / 9 + 1) (0 : Int)).set (n / 9) ((10 ^ (n % 9) : Nat) : Int) = limbs (10 ^ n) := by
  obtain ⟨l, hl⟩ : ∃ l, (List.replicate (n / 9 + 1) (0 : Int)).set (n / 9) ((10 ^ (n % 9) : Nat) : Int) = l := ⟨_, rfl⟩
  have hp : 10 ^ (n % 9) < 10 ^ 9 := Nat.pow_lt_pow_right (by decide) (by omega)
  have hp0 : 0 < 10 ^ (n % 9) := Nat.pow_pos (by decide)
  have hlen : l.length = n / 9 + 1 := by rw [← hl]; simp
  have hd : Digs l := by rw [← hl]; exact (Digs.zeros _).set _ (by omega) (by show _ < (1000000000 : Int); omega)
  have hv : val l = ((10 ^ n : Nat) : Int) := by
    rw [← hl, val_set _ _ _ (by simp), val_zeros]
    have e0 : (List.replicate (n / 9 + 1) (0 : Int)).getD (n / 9) 0 = 0 := by rw [List.getD_eq_getElem?_getD, List.getElem?_replicate]; split <;> simp
    rw [e0, Int.zero_add, Int.sub_zero]
    rw [show (1000000000 : Int) ^ (n / 9) = ((1000000000 ^ (n / 9) : Nat) : Int) by rw [Int.natCast_pow]; rfl, ← Int.natCast_mul]
    refine congrArg _ ?_
    rw [show (1000000000 : Nat) = 10 ^ 9 from rfl, ← Nat.pow_mul, ← Nat.pow_add, Nat.div_add_mod]
  have hlast : ∀ h : l ≠ [], l.getLast h ≠ 0 := fun h => by
    rw [last_of l (n / 9) hlen h, ← hl, getD_set _ _ _ _ (by simp), if_pos rfl]
    omega
  have := limbs_val hd hlast
  rw [hv, Int.toNat_natCast] at this
  rw [hl]
  exact this.symm
theorem pow10_f (n : Nat) (hn : n < 1000000) : ∃ k, PPow10.spec_Pow10.f k (n : Int) = some (limbs (10 ^ n)) := by
  refine ⟨10, ?_⟩
  have e1 : wrap64 (Int.tdiv (n : Int) 9) = ((n / 9 : Nat) : Int) := by rw [Int.tdiv_eq_ediv_of_nonneg (by omega), w64' _ (by omega) (by omega)]; omega
  have e2 : wrap64 (((n / 9 : Nat) : Int) + 1) = ((n / 9 + 1 : Nat) : Int) := by rw [w64' _ (by omega) (by omega)]; omega
  unfold PPow10.spec_Pow10.f
  rw [e1, e2, if_neg (by omega), if_pos (by omega), Int.toNat_natCast, if_pos (by omega)]
  have h := pow10_go n (n % 9) 0 (List.replicate (n / 9 + 1) 0) 10 (by omega) (by omega) (by simp) hn
  rw [show ((10 ^ 0 : Nat) : Int) = 1 from rfl, show ((0 : Nat) : Int) = 0 from rfl, pow10_limbs] at h
  exact h

/-- NatCmp: how two numbers compare. -/
def cmp (m n : Nat) : Int := if m < n then -1 else if m = n then 0 else 1
theorem rest_lt (m n i : Nat) (h : rest m i < rest n i) : m < n := by
  unfold rest at h
  rcases Nat.lt_or_ge m n with h1 | h1
  · exact h1
  · have := Nat.div_le_div_right (c := 1000000000 ^ i) h1
    omega
theorem natCmp_go (m n : Nat) (hl : (limbs m).length = (limbs n).length) (hb : (limbs m).length < 1000000) : ∀ (i k : Nat), i ≤ (limbs m).length → i < k → rest m i = rest n i →
    PNatCmp.spec_NatCmp.l0 k (limbs m) (limbs n) ((i : Int) - 1) = some (cmp m n) := by
  intro i
  induction i with
  | zero =>
    intro k hi hk h
    obtain ⟨k, rfl⟩ : ∃ q, k = q + 1 := ⟨k - 1, by omega⟩
    rw [rest_zero, rest_zero] at h
    subst h
    rw [PNatCmp.spec_NatCmp.l0, if_neg (by omega)]
    unfold cmp
    rw [if_neg (by omega), if_pos rfl]
  | succ i ih =>
    intro k hi hk h
    obtain ⟨k, rfl⟩ : ∃ q, k = q + 1 := ⟨k - 1, by omega⟩
    have e0 : ((i + 1 : Nat) : Int) - 1 = i := by omega
    have e1 : wrap64 ((i : Int) - 1) = (i : Int) - 1 := w64' _ (by omega) (by omega)
    have hm := rest_step m i
    have hn := rest_step n i
    rw [h] at hm
    rw [e0, PNatCmp.spec_NatCmp.l0, if_pos (by omega), if_pos (by omega), if_pos (by omega), if_pos (by omega), rd_nat, rd_nat, limbs_getD, limbs_getD, e1]
    by_cases h1 : rest m i % 1000000000 = rest n i % 1000000000
    · rw [if_pos (by omega)]
      exact ih k (by omega) (by omega) (by omega)
    · rw [if_neg (by omega)]
      unfold cmp
      by_cases h2 : rest m i % 1000000000 < rest n i % 1000000000
      · rw [if_pos (by omega), if_pos (rest_lt m n i (by omega))]
      · have := rest_lt n m i (by omega)
        rw [if_neg (by omega), if_neg (by omega), if_neg (by omega)]
theorem natCmp_f (m n : Nat) (hm : (limbs m).length < 1000000) (hn : (limbs n).length < 1000000) : ∃ k, PNatCmp.spec_NatCmp.f k (limbs m) (limbs n) = some (cmp m n) := by
  refine ⟨(limbs m).length + 1, ?_⟩
  unfold PNatCmp.spec_NatCmp.f
  by_cases hl : (limbs m).length = (limbs n).length
  · have e : wrap64 (((limbs m).length : Int) - 1) = ((limbs m).length : Int) - 1 := w64' _ (by omega) (by omega)
    rw [if_pos (by omega), e]
    refine natCmp_go m n hl hm _ _ (Nat.le_refl _) (by omega) ?_
    rw [rest_done]
    rw [hl, rest_done]
  · rw [if_neg (by omega)]
    unfold cmp
    by_cases h2 : (limbs m).length < (limbs n).length
    · rw [if_pos (by omega), if_pos (limbs_len_lt m n h2)]
    · have := limbs_len_lt n m (by omega)
      rw [if_neg (by omega), if_neg (by omega), if_neg (by omega)]

/-- How far the division by one limb has come: the limbs from i on are divided. -/
structure Short (n b : Nat) (out : List Int) (i : Nat) : Prop where
  len : out.length = (limbs n).length
  digs : Digs out
  worth : val out = (1000000000 : Int) ^ i * ((rest n i / b : Nat) : Int)
  zero : ∀ k, k < i → out.getD k 0 = 0
theorem Short.step {n b : Nat} {out : List Int} {i : Nat} (h : Short n b out (i + 1)) (hi : i < (limbs n).length) (hb : 0 < b) (hbl : b < 1000000000) :
    Short n b (out.set i (((rest n (i + 1) % b * 1000000000 + rest n i % 1000000000) / b : Nat) : Int)) i ∧ (rest n (i + 1) % b * 1000000000 + rest n i % 1000000000) % b = rest n i % b ∧ (rest n (i + 1) % b * 1000000000 + rest n i % 1000000000) / b < 1000000000 := by
  have hs := rest_step n i
  have hlen := h.len
  have hmod := Nat.mod_lt (rest n (i + 1)) hb
  obtain ⟨x, hx⟩ : ∃ x, rest n i % 1000000000 = x := ⟨_, rfl⟩
  have hxl : x < 1000000000 := by omega
  obtain ⟨t, ht⟩ : ∃ t, rest n (i + 1) = t := ⟨_, rfl⟩
  have hw := h.worth
  rw [hx, ht] at hs ⊢
  rw [ht] at hmod hw
  have hdm := Nat.div_add_mod t b
  have hq : (t % b * 1000000000 + x) / b < 1000000000 := by
    rw [Nat.div_lt_iff_lt_mul hb]
    have : (t % b + 1) * 1000000000 ≤ b * 1000000000 := Nat.mul_le_mul_right _ hmod
    omega
  have hrec : rest n i = t / b * 1000000000 * b + (t % b * 1000000000 + x) := by
    rw [hs]
    generalize t / b = u at *
    generalize t % b = v at *
    subst hdm
    grind
  have hd : rest n i / b = t / b * 1000000000 + (t % b * 1000000000 + x) / b := by
    rw [hrec, Nat.mul_comm (t / b * 1000000000) b, Nat.mul_add_div hb]
  have hm : (t % b * 1000000000 + x) % b = rest n i % b := by
    rw [hrec, Nat.mul_comm (t / b * 1000000000) b, Nat.mul_add_mod]
  obtain ⟨u, hu⟩ : ∃ u, (t % b * 1000000000 + x) / b = u := ⟨_, rfl⟩
  rw [hu] at hq hd ⊢
  refine ⟨⟨by simp [hlen], h.digs.set _ (by omega) (by show _ < (1000000000 : Int); omega), ?_, fun k hk => ?_⟩, hm, hq⟩
  · rw [val_set _ _ _ (by omega), h.zero i (by omega), hw, hd, Int.pow_succ]
    generalize t / b = v
    generalize (1000000000 : Int) ^ i = P
    rw [Int.natCast_add, Int.natCast_mul]
    grind
  · rw [getD_set _ _ _ _ (by omega), if_neg (by omega)]
    exact h.zero k (by omega)
theorem natShort_go (n b : Nat) (hb : 0 < b) (hbl : b < 1000000000) (hn : (limbs n).length < 1000000) : ∀ (i : Nat) (out : List Int) (k : Nat), i ≤ (limbs n).length → i + (limbs n).length + 1 < k → Short n b out i →
    PnatShort.spec_natShort.l0 k (limbs n) b out ((rest n i % b : Nat) : Int) ((i : Int) - 1) = some (limbs (n / b), ((n % b : Nat) : Int)) := by
  intro i
  induction i with
  | zero =>
    intro out k hi hk h
    obtain ⟨k, rfl⟩ : ∃ q, k = q + 1 := ⟨k - 1, by omega⟩
    have hlen := h.len
    have hw := h.worth
    have hmod := Nat.mod_lt n hb
    rw [rest_zero, Int.pow_zero, Int.one_mul] at hw
    rw [PnatShort.spec_natShort.l0, if_neg (by omega)]
    unfold PnatShort.spec_natTrim.f
    rw [natTrim_go' _ out k rfl h.digs (by omega) (by omega), rest_zero]
    simp only [Option.bind_some, trim, hw, Int.toNat_natCast]
    rw [show ((n % b : Nat) : Int) % 4294967296 = ((n % b : Nat) : Int) by omega]
  | succ i ih =>
    intro out k hi hk h
    obtain ⟨k, rfl⟩ : ∃ q, k = q + 1 := ⟨k - 1, by omega⟩
    have hlen := h.len
    obtain ⟨hs, hm, hq⟩ := h.step (by omega) hb hbl
    have e0 : ((i + 1 : Nat) : Int) - 1 = i := by omega
    have e1 : wrap64 ((i : Int) - 1) = (i : Int) - 1 := w64' _ (by omega) (by omega)
    have eb : IntKind.u64.wrap (b : Int) = b := IntWalk.u64_in _ ⟨by omega, by omega⟩
    have hmod := Nat.mod_lt (rest n (i + 1)) hb
    obtain ⟨v, hv⟩ : ∃ v, rest n (i + 1) % b = v := ⟨_, rfl⟩
    obtain ⟨x, hx⟩ : ∃ x, rest n i % 1000000000 = x := ⟨_, rfl⟩
    have hxl : x < 1000000000 := by omega
    rw [hv] at hmod
    rw [hv, hx] at hs hm hq
    obtain ⟨u, hu⟩ : ∃ u, (v * 1000000000 + x) / b = u := ⟨_, rfl⟩
    rw [hu] at hs hq
    have e2 : IntKind.u64.wrap ((IntKind.u64.wrap ((v : Int) * 1000000000)) + (IntKind.u64.wrap (x : Int))) = ((v * 1000000000 + x : Nat) : Int) := by
      rw [IntWalk.u64_in (x : Int) ⟨by omega, by omega⟩, IntWalk.u64_in ((v : Int) * 1000000000) ⟨by omega, by omega⟩, IntWalk.u64_in _ ⟨by omega, by omega⟩]
      omega
    have e3 : IntKind.u64.wrap (Int.tdiv ((v * 1000000000 + x : Nat) : Int) b) % 4294967296 = ((u : Nat) : Int) := by
      rw [Int.tdiv_eq_ediv_of_nonneg (by omega), ← Int.natCast_ediv, hu, IntWalk.u64_in _ ⟨by omega, by omega⟩]
      omega
    have e4 : Int.tmod ((v * 1000000000 + x : Nat) : Int) b = ((rest n i % b : Nat) : Int) := by
      rw [Int.tmod_eq_emod_of_nonneg (by omega), ← Int.natCast_emod, hm]
    rw [e0, hv, PnatShort.spec_natShort.l0, if_pos (by omega), if_pos (by omega), if_pos (by omega), eb, if_neg (by omega), if_pos (by omega), rd_nat, limbs_getD, hx, e2, e3, e4, e1, Int.toNat_natCast]
    exact ih _ k (by omega) (by omega) hs
theorem natShort_f (n b : Nat) (hb : 0 < b) (hbl : b < 1000000000) (hn : (limbs n).length < 1000000) : ∃ k, PnatShort.spec_natShort.f k (limbs n) (b : Int) = some (limbs (n / b), ((n % b : Nat) : Int)) := by
  refine ⟨(limbs n).length + (limbs n).length + 2, ?_⟩
  have e : wrap64 (((limbs n).length : Int) - 1) = ((limbs n).length : Int) - 1 := w64' _ (by omega) (by omega)
  unfold PnatShort.spec_natShort.f
  rw [if_pos (by omega), Int.toNat_natCast, if_pos (by omega), e]
  have h := natShort_go n b hb hbl hn (limbs n).length (List.replicate (limbs n).length 0) ((limbs n).length + (limbs n).length + 2) (Nat.le_refl _) (by omega)
    ⟨by simp, Digs.zeros _, by rw [val_zeros, rest_done]; simp, fun k hk => by rw [List.getD_eq_getElem?_getD, List.getElem?_replicate]; split <;> simp⟩
  rw [rest_done, Nat.zero_mod, show ((0 : Nat) : Int) = 0 from rfl] at h
  exact h
end Go.Proofs.YthkmgjkajllemaaDoor.Arith

/- The reference's text of a natural number is its decimal digits, and it tells how many there are. -/
namespace Go.Proofs.YthkmgjkajllemaaDoor.Str
open Go.RowKit Go.Proofs.YthkmgjkajllemaaDoorW.PrintWords Go.Proofs.YthkmgjkajllemaaDoorW.PrintLast Go.Proofs.YthkmgjkajllemaaDoorW.PrintMore Go.Proofs.YthkmgjkajllemaaDoor.Num
set_option linter.unusedVariables false
set_option linter.unusedSimpArgs false

theorem info5 : (Tryd.prog.info? 5).map (fun i => (i.zero, i.size, i.bytes)) = some (some (.int .u8 0), 1, 1) := by kernel_rfl

/-- A natural number in memory: a slice of its limbs. -/
def IsNat (w : World) (v : Value) (n : Nat) : Prop := ∃ A c, v = .slice A (limbs n).length c ∧ (limbs n).length ≤ c ∧ Kd.C (Kd.int .u32) w A (limbs n).length (limbs n)
theorem IsNat.below {w w1 : World} {v : Value} {n : Nat} (h : IsNat w v n) (hb : Below w.heap.size w w1) : IsNat w1 v n := by
  obtain ⟨A, c, e, hc, hr⟩ := h
  exact ⟨A, c, e, hc, Kd.C_below hr hb⟩

theorem natFrom_go (d : Nat) : ∀ (k x : Nat) (acc : List Int), d < k → x < 1000000000 ^ d → x < 18446744073709551616 → acc.length + d < 35184372088832 →
    PNatFrom.spec_NatFrom.l0 k (x : Int) acc = some (acc ++ limbs x) := by
  induction d with
  | zero =>
    intro k x acc hk hx hb hl
    obtain ⟨k, rfl⟩ : ∃ m, k = m + 1 := ⟨k - 1, by omega⟩
    have : x = 0 := by simpa using hx
    subst this
    simp [PNatFrom.spec_NatFrom.l0, limbs_zero]
  | succ d ih =>
    intro k x acc hk hx hb hl
    obtain ⟨k, rfl⟩ : ∃ m, k = m + 1 := ⟨k - 1, by omega⟩
    by_cases h0 : x = 0
    · subst h0
      simp [PNatFrom.spec_NatFrom.l0, limbs_zero]
    · have e1 : IntKind.u64.wrap (Int.tdiv (x : Int) 1000000000) = ((x / 1000000000 : Nat) : Int) := by
        rw [Int.tdiv_eq_ediv_of_nonneg (by omega), IntWalk.u64_in _ (by omega)]
        omega
      have e2 : (Int.tmod (x : Int) 1000000000) % 4294967296 = ((x % 1000000000 : Nat) : Int) := by
        rw [Int.tmod_eq_emod_of_nonneg (by omega)]
        omega
      rw [PNatFrom.spec_NatFrom.l0, if_pos (by omega), if_pos (by omega), e1, e2, ih k _ _ (by omega) (by
        rw [Nat.pow_succ] at hx
        exact Nat.div_lt_of_lt_mul (by rw [Nat.mul_comm]; exact hx)) (by omega) (by simp; omega), limbs_pos (show 0 < x by omega)]
      simp

/-- NatFrom: the limbs of a number. -/
theorem natFrom_any (x : Nat) (w : World) (h : x < 18446744073709551616) :
    Calls Tryd.prog 11 #[.int .u64 x] w fun e w' => ∃ v, e = .returned v ∧ IsNat w' v x ∧ Below w.heap.size w w' := by
  have e : PNatFrom.spec_NatFrom.f 4 (x : Int) = some (limbs x) := by
    unfold PNatFrom.spec_NatFrom.f
    rw [natFrom_go 3 4 x [] (by omega) (by omega) h (by simp)]
    rfl
  refine (PNatFrom.spec_NatFrom.calls 4 x _ w e).mono ?_
  rintro e w' ⟨v, rfl, hr, hb⟩
  obtain ⟨A, c, rfl, hc, hr⟩ := Kd.R_reads hr
  exact ⟨_, rfl, ⟨A, c, rfl, hc, hr⟩, hb⟩

set_option maxHeartbeats 4000000 in
set_option maxRecDepth 100000 in
/-- The text of a number. -/
theorem natString_any (n : Nat) (v : Value) (w : World) (hv : IsNat w v n) (hn : (limbs n).length < 1000000000) :
    Calls Tryd.prog 12 #[v] w fun e w' => e = .returned (.string (text n)) ∧ Below w.heap.size w w' := by
  obtain ⟨A, c, rfl, hc, hr⟩ := hv
  have HR := Aside0.mk hr
  have HB := Aside0.mk (Below.refl w.heap.size w)
  clear hr
  go_enter Tryd.func12, Tryd.ntmps12
  go_wp2
  go_loopw [3, 11] (fun v3 v11 w' => ∃ (xs : List Int) (i : Nat), v11 = .int .i64 i ∧ i ≤ (limbs n).length ∧ Aside0 (xs ++ decs (rest n i) = decs n) ∧ xs.length ≤ 9 * i ∧ Aside0 (Kd.R (Kd.int .u8) 5 w' w.heap.size (fun _ => True) v3 xs) ∧ Aside0 (Below w.heap.size w w')) (fun _ v11 _ => (limbs n).length - (intOf v11).toNat)
  case atStart => exact ⟨[], 0, rfl, Nat.zero_le _, ⟨by rw [rest_zero]; rfl⟩, by simp, ⟨Kd.R_nil _ _ _ _ _⟩, HB⟩
  case round =>
    obtain ⟨xs, i, rfl, hi, HX, hxl, HO, HB⟩ := hrel
    by_cases hlt : i < (limbs n).length
    · obtain ⟨hx, hpos⟩ := limbs_at n i hlt
      obtain ⟨ad, e0, hc0⟩ := Kd.at_int HR.out (i : Int) (by omega) (by omega)
      have hc1 := (HB.out.cell (World.block_lt_of_cell? w _ hc0)).trans hc0
      have hq := rest_pos n (i + 1)
      rw [rest_succ] at hq
      obtain ⟨x, hx2⟩ : ∃ x, rest n i % 1000000000 = x := ⟨_, rfl⟩
      obtain ⟨q, hq2⟩ : ∃ q, rest n i / 1000000000 = q := ⟨_, rfl⟩
      have hx9 : x < 1000000000 := by omega
      rw [hq2] at hq
      unfold rd at hc1
      rw [Int.toNat_natCast, hx, hx2] at hc1
      subst e0
      have HX1 : Aside0 (xs ++ remd 0 x q = decs n) := ⟨by rw [← HX.out, remd_start (rest n i), hx2, hq2]⟩
      have HQ : Aside0 (rest n (i + 1) = q) := ⟨by rw [rest_succ, hq2]⟩
      clear hc0 hx hx2 hq2 HX
      go_wp2
      go_loopw [3, 5, 6] (fun v3 v5 v6 w' => ∃ (ys : List Int) (y j : Nat), v5 = .int .u32 y ∧ v6 = .int .i64 j ∧ j ≤ 9 ∧ y < 10 ^ (9 - j) ∧ Aside0 (ys ++ remd j y q = decs n) ∧ ys.length ≤ 9 * i + j ∧ Aside0 (Kd.R (Kd.int .u8) 5 w' w.heap.size (fun _ => True) v3 ys) ∧ Aside0 (Below w.heap.size w w')) (fun _ _ v6 _ => 9 - (intOf v6).toNat)
      case atStart => exact ⟨xs, x, 0, rfl, rfl, by omega, by omega, HX1, by omega, HO, HB⟩
      case round =>
        clear HX1 hx9 hxl HO HB hc1
        obtain ⟨ys, y, j, rfl, rfl, hj, hy, HX, hyl, HO, HB⟩ := hrel
        have hy9 : y < 1000000000 := Nat.lt_of_lt_of_le hy (Nat.pow_le_pow_right (by omega) (show 9 - j ≤ 9 by omega))
        by_cases hj9 : j < 9
        · by_cases hmore : 0 < y ∨ 0 < q
          · have hstep := remd_step j y q hj9 hmore
            have hy' : y / 10 < 10 ^ (9 - (j + 1)) := by
              rw [show 9 - j = (9 - (j + 1)) + 1 by omega, Nat.pow_succ] at hy
              omega
            have HX2 : Aside0 ((ys ++ [((48 + y % 10 : Nat) : Int)]) ++ remd (j + 1) (y / 10) q = decs n) := ⟨by rw [← HX.out, hstep]; simp⟩
            clear hstep hy
            have hj9b : decide ((j : Int) < 9) = true := decide_eq_true (by omega)
            by_cases hy0 : 0 < y
            · go_wp2_with (first | ((with_reducible refine gate_builtin (b := .append) (xs := #[.tmp 31, .tmp 36]) rfl ?_); at_builtin; refine Kd.R_append (Kd.int .u8) (w0 := w) w.heap.size rfl (.tmp 31) (.tmp 36) 70 5 (.int .u8 0) 1 rfl Tryd.underlying70 info5 rfl (by decide) (by omega) u3 ys (48 + (y : Int) % 10) [.int .u8 (48 + (y : Int) % 10)] (fun _ => True) (fun _ => False) rfl rfl ?aP (fun _ hk => hk.elim) ?aF ?aO ?aB ?aS ?aL ?_; (case aP => exact rfl); (case aB => exact HB.out); (case aF => exact (fun _ _ => trivial)); (case aO => exact HO.out); (case aS => exact HB.out.size); (case aL => omega); intro v1 w1 ho hb hg hat; have HO1 := Aside0.mk ho; have HB1 := Aside0.mk hb; clear ho hb hg hat HO HB))
              go_roundw
              case rel => exact ⟨_, y / 10, j + 1, by go_num, by go_num, by omega, hy', HX2, by simp; omega, HO1, HB1⟩
              case measure => simp [intOf]; omega
            · obtain rfl : y = 0 := by omega
              have hq0 : i + 1 < (limbs n).length := hq.2 (by omega)
              go_wp2_with (first | ((with_reducible refine gate_builtin (b := .append) (xs := #[.tmp 31, .tmp 36]) rfl ?_); at_builtin; refine Kd.R_append (Kd.int .u8) (w0 := w) w.heap.size rfl (.tmp 31) (.tmp 36) 70 5 (.int .u8 0) 1 rfl Tryd.underlying70 info5 rfl (by decide) (by omega) u3 ys (48) [.int .u8 (48)] (fun _ => True) (fun _ => False) rfl rfl ?aP (fun _ hk => hk.elim) ?aF ?aO ?aB ?aS ?aL ?_; (case aP => exact rfl); (case aB => exact HB.out); (case aF => exact (fun _ _ => trivial)); (case aO => exact HO.out); (case aS => exact HB.out.size); (case aL => omega); intro v1 w1 ho hb hg hat; have HO1 := Aside0.mk ho; have HB1 := Aside0.mk hb; clear ho hb hg hat HO HB))
              go_roundw
              case rel => exact ⟨_, 0, j + 1, by go_num, by go_num, by omega, hy', HX2, by simp; omega, HO1, HB1⟩
              case measure => simp [intOf]; omega
          · obtain rfl : y = 0 := by omega
            have hq0 : ¬ i + 1 < (limbs n).length := fun h => hmore (.inr (hq.1 h))
            have hX3 : Aside0 (ys ++ decs (rest n (i + 1)) = decs n) := ⟨by rw [HQ.out, ← HX.out, show q = 0 by omega, remd_end0]⟩
            have hj9b : decide ((j : Int) < 9) = true := decide_eq_true (by omega)
            go_wp2
            go_roundw
            case rel => exact ⟨ys, i + 1, by go_num, by omega, hX3, by omega, HO, HB⟩
            case measure => simp [intOf]; omega
        · obtain rfl : j = 9 := by omega
          obtain rfl : y = 0 := by simpa using hy
          have hX3 : Aside0 (ys ++ decs (rest n (i + 1)) = decs n) := ⟨by rw [HQ.out, ← HX.out, remd_end9 0 q (by omega)]⟩
          go_wp2
          go_roundw
          case rel => exact ⟨ys, i + 1, by go_num, by omega, hX3, by omega, HO, HB⟩
          case measure => simp [intOf]; omega
    · have hi2 : i = (limbs n).length := by omega
      have hr0 : rest n i = 0 := by
        rcases Nat.eq_zero_or_pos (rest n i) with h | h
        · exact h
        · exact absurd ((rest_pos n i).2 h) hlt
      have HXn : Aside0 (xs = decs n) := ⟨by rw [← HX.out, hr0, decs_zero]; simp⟩
      clear hr0 HX
      subst hi2
      obtain ⟨A3, c3, e3, hc3, hr3⟩ := Kd.R_reads HO.out
      subst e3
      by_cases hn0 : n = 0
      · subst hn0
        have hx0 : xs.length = 0 := by rw [HXn.out, decs_zero]; rfl
        go_wp2
        go_ret
        exact ⟨by simp [text], HB.out⟩
      · have hxp : 0 < xs.length := by rw [HXn.out, decs_pos (by omega)]; simp
        obtain ⟨g, cap, eg, hgb, hgl, _⟩ := Kd.R_form HO.out hxp
        cases eg
        have hb9 : xs.length ≤ 9000000000 := by omega
        clear hgl hc3 hr3
        go_wp2
        go_loopw [7, 8] (fun v7 v8 w' => ∃ (ys : List Int) (i j : Nat), v7 = .int .i64 i ∧ v8 = .int .i64 j ∧ Aside0 (i + j + 1 = xs.length) ∧ i ≤ j + 1 ∧ i ≤ xs.length ∧ j < xs.length ∧ Aside0 (Turned xs ys i) ∧ Aside0 (Kd.R (Kd.int .u8) 5 w' w.heap.size (fun _ => True) (.slice (some ⟨g, 0, none⟩) xs.length c3) ys) ∧ Aside0 (Below w.heap.size w w')) (fun _ v8 _ => (intOf v8).toNat)
        case atStart => exact ⟨xs, 0, xs.length - 1, rfl, by go_num, ⟨by omega⟩, by omega, by omega, by omega, ⟨Turned.start xs⟩, HO, HB⟩
        case round =>
          clear HO HB
          obtain ⟨ys, i, j, rfl, rfl, HS, hij, hil, hjl, HT, HO, HB⟩ := hrel
          have hyl := HT.out.len
          by_cases hlt : i < j
          · obtain ⟨hx1, hf1⟩ := Kd.R_celln 0 HO.out (i : Int) (by omega) (by omega)
            obtain ⟨hx2, hf2⟩ := Kd.R_celln 0 HO.out (j : Int) (by omega) (by omega)
            have HP1 := Kd.R_putn HO.out (i : Int) (ys.getD j 0)
            have HP2 := Kd.R_putn HP1 (j : Int) (ys.getD i 0)
            have HT2 := HT.out.step (by have := HS.out; omega)
            rw [show xs.length - 1 - i = j by have := HS.out; omega] at HT2
            unfold rdOf at hx1 hx2
            simp only [Int.toNat_natCast] at hx1 hx2 hf1 hf2 HP2
            obtain ⟨x1, hx1'⟩ : ∃ x1, ys.getD i 0 = x1 := ⟨_, rfl⟩
            obtain ⟨x2, hx2'⟩ : ∃ x2, ys.getD j 0 = x2 := ⟨_, rfl⟩
            rw [hx1'] at hx1 HP2 HT2
            rw [hx2'] at hx2 HP2 HT2
            have HP3 := Aside0.mk HP2
            have HT3 := Aside0.mk HT2
            clear HP1 HP2 HT2 hx1' hx2' HT HO hyl
            go_wp2
            go_region
            go_wp2
            go_roundw
            case rel => exact ⟨_, i + 1, j - 1, by go_num, by go_num, ⟨by have := HS.out; omega⟩, by omega, by omega, by omega, HT3, ⟨Kd.R_drew HP3.out⟩, ⟨below_drew (below_set (below_set HB.out hgb) hgb)⟩⟩
            case measure => simp [intOf]; omega
          · have hd : ys = xs.reverse := HT.out.done (by have := HS.out; omega)
            have hcv := own_string (P := Tryd.prog) Tryd.underlying70 Tryd.underlying5 Tryd.underlying9 (Kd.own_of_R HO.out)
            have ht : strOfNums ys = text n := by
              unfold text
              rw [if_neg hn0, hd, HXn.out]
            rw [ht] at hcv
            clear hd ht
            go_wp2
            go_ret
            exact ⟨rfl, HB.out⟩

set_option maxHeartbeats 1000000 in
/-- How many digits a number has. -/
theorem natDigits_any (n : Nat) (v : Value) (w : World) (hv : IsNat w v n) (hn : (limbs n).length < 1000000000) :
    Calls Tryd.prog 13 #[v] w fun e w' => e = .returned (.int .i64 (decs n).length) ∧ Below w.heap.size w w' := by
  have hv0 := hv
  obtain ⟨A, c, rfl, hc, hr⟩ := hv
  have HR := Aside0.mk hv0
  clear hr hv0
  by_cases hn0 : n = 0
  · subst hn0
    rw [limbs_zero]
    go_enter Tryd.func13, Tryd.ntmps13
    go_wp2
    go_ret
    exact ⟨by rw [decs_zero]; rfl, Below.refl _ _⟩
  · have hp : 0 < (limbs n).length := by rw [limbs_pos (by omega)]; simp
    have hs := text_size n (by omega)
    have HS := Aside0.mk hs
    clear hs
    go_enter Tryd.func13, Tryd.ntmps13
    go_wp2_with (go_at_call 12; refine (natString_any n _ _ HR.out hn).mono ?_; rintro e w' ⟨rfl, hb⟩; have HB := Aside0.mk hb; clear hb)
    go_ret
    exact ⟨by rw [HS.out]; rfl, HB.out⟩
end Go.Proofs.YthkmgjkajllemaaDoor.Str

/- Natural numbers of the reference in memory: slices of limbs in blocks that the call has made. -/
namespace Go.Proofs.YthkmgjkajllemaaDoor.Nats
open Go.RowKit Go.Proofs.YthkmgjkajllemaaDoorW.PrintWords Go.Proofs.YthkmgjkajllemaaDoorW.PrintLast Go.Proofs.YthkmgjkajllemaaDoorW.PrintMore Go.Proofs.YthkmgjkajllemaaDoor.Num Go.Proofs.YthkmgjkajllemaaDoor.Str
set_option linter.unusedVariables false
set_option linter.unusedSimpArgs false

/-- A natural number in memory, in blocks from b on. -/
def IsNew (w : World) (b : Nat) (v : Value) (n : Nat) : Prop := Kd.V (Kd.int .u32) 69 w b (fun k => b ≤ k) v (limbs n)
theorem IsNew.below {w w1 : World} {b : Nat} {v : Value} {n : Nat} (h : IsNew w b v n) (hb : Below w.heap.size w w1) : IsNew w1 b v n := Kd.V_below h hb
theorem IsNew.lower {w : World} {b b' : Nat} {v : Value} {n : Nat} (h : IsNew w b v n) (hb : b' ≤ b) : IsNew w b' v n := Kd.V_mono (Kd.V_lower h hb) (fun k hk => Nat.le_trans hb hk)
theorem IsNew.set {w : World} {b : Nat} {v : Value} {n : Nat} (h : IsNew w b v n) {p : Addr} (hp : p.block < b) (u : Value) : IsNew (w.setCell p u) b v n :=
  Kd.V_far h (fun k hk e => by have : b ≤ k := hk; omega) u
theorem IsNew.drew {w : World} {b : Nat} {v : Value} {n : Nat} (h : IsNew w b v n) : IsNew w.drew b v n := Kd.V_drew h
theorem IsNew.alloc {w : World} {b : Nat} {v : Value} {n : Nat} (h : IsNew w b v n) (o : Obj) : IsNew (w.alloc o) b v n := Kd.V_alloc h o
theorem IsNew.slice {w : World} {b : Nat} {v : Value} {n : Nat} (h : IsNew w b v n) : ∃ A c, v = .slice A (limbs n).length c := Kd.V_slice h
theorem IsNew.isNat {w : World} {b : Nat} {v : Value} {n : Nat} (h : IsNew w b v n) : IsNat w v n := by
  obtain ⟨A, c, rfl⟩ := Kd.V_slice h
  obtain ⟨_, hc, hr⟩ := Kd.V_reads' h
  exact ⟨A, c, rfl, hc, hr⟩
theorem V_of_R {α : Type} {d : Kd α} {e base : Nat} {ok : Nat → Prop} {w : World} {v : Value} {xs : List α} (h : d.R e w base ok v xs) : Kd.V d e w base (fun k => base ≤ k) v xs := by
  obtain ⟨A, c, rfl, hl, _⟩ := Kd.R_reads h
  refine ⟨A, c, rfl, hl, fun W' hW => ?_⟩
  have h1 := Kd.R_mono (Kd.R_bound h) (ok' := fun k => base ≤ k) (fun k hk => hk.2.1)
  have h2 : d.R e W' base (fun k => base ≤ k) (.slice A xs.length c) xs := Kd.R_step h1 (fun k hk hlt => hW k hk hlt)
  obtain ⟨A', c', e', _, hr⟩ := Kd.R_reads h2
  injection e' with ha _ _
  rw [ha]
  exact hr

/-- NatFrom, in blocks of its own. -/
theorem natFrom_new (x : Nat) (w : World) (h : x < 18446744073709551616) :
    Calls Tryd.prog 11 #[.int .u64 x] w fun e w' => ∃ v, e = .returned v ∧ IsNew w' w.heap.size v x ∧ Below w.heap.size w w' := by
  have e : PNatFrom.spec_NatFrom.f 4 (x : Int) = some (limbs x) := by
    unfold PNatFrom.spec_NatFrom.f
    rw [natFrom_go 3 4 x [] (by omega) (by omega) h (by simp)]
    rfl
  refine (PNatFrom.spec_NatFrom.calls 4 x _ w e).mono ?_
  rintro e w' ⟨v, rfl, hr, hb⟩
  exact ⟨v, rfl, V_of_R hr, hb⟩
end Go.Proofs.YthkmgjkajllemaaDoor.Nats

/- The reference's functions on natural numbers, as contracts on numbers. -/
namespace Go.Proofs.YthkmgjkajllemaaDoor.NatOps
open Go.RowKit Go.Proofs.YthkmgjkajllemaaDoorW.PrintWords Go.Proofs.YthkmgjkajllemaaDoorW.PrintLast Go.Proofs.YthkmgjkajllemaaDoorW.PrintMore Go.Proofs.YthkmgjkajllemaaDoor.Num Go.Proofs.YthkmgjkajllemaaDoor.Str Go.Proofs.YthkmgjkajllemaaDoor.Nats Go.Proofs.YthkmgjkajllemaaDoor.Val Go.Proofs.YthkmgjkajllemaaDoor.Arith
set_option linter.unusedVariables false
set_option linter.unusedSimpArgs false

/-- NatMul: the product. -/
theorem natMul_any (u v : Value) (m n : Nat) (w : World) (hu : IsNat w u m) (hv : IsNat w v n) (hm : (limbs m).length < 1000000) (hn : (limbs n).length < 1000000) :
    Calls Tryd.prog 56 #[u, v] w fun e w' => ∃ r, e = .returned r ∧ IsNew w' w.heap.size r (m * n) ∧ Below w.heap.size w w' := by
  obtain ⟨A, c, rfl, hc, hr⟩ := hu
  obtain ⟨A', c', rfl, hc', hr'⟩ := hv
  obtain ⟨k, hk⟩ := natMul_f m n hm hn
  refine (PNatMul.spec_NatMul.calls k A c _ A' c' _ _ w hr hc hr' hc' hk).mono ?_
  rintro e w' ⟨r, rfl, h1, h2⟩
  exact ⟨r, rfl, h1, h2⟩
/-- Pow10: a power of ten. -/
theorem pow10_any (n : Nat) (w : World) (hn : n < 1000000) :
    Calls Tryd.prog 57 #[.int .i64 n] w fun e w' => ∃ r, e = .returned r ∧ IsNew w' w.heap.size r (10 ^ n) ∧ Below w.heap.size w w' := by
  obtain ⟨k, hk⟩ := pow10_f n hn
  refine (PPow10.spec_Pow10.calls k _ _ w hk).mono ?_
  rintro e w' ⟨r, rfl, h1, h2⟩
  exact ⟨r, rfl, V_of_R h1, h2⟩
/-- NatCmp: how two numbers compare. -/
theorem natCmp_any (u v : Value) (m n : Nat) (w : World) (hu : IsNat w u m) (hv : IsNat w v n) (hm : (limbs m).length < 1000000) (hn : (limbs n).length < 1000000) :
    Calls Tryd.prog 60 #[u, v] w fun e w' => e = .returned (.int .i64 (cmp m n)) ∧ Below w.heap.size w w' := by
  obtain ⟨A, c, rfl, hc, hr⟩ := hu
  obtain ⟨A', c', rfl, hc', hr'⟩ := hv
  obtain ⟨k, hk⟩ := natCmp_f m n hm hn
  refine (PNatCmp.spec_NatCmp.calls k A c _ A' c' _ _ w hr hc hr' hc' hk).mono ?_
  rintro e w' ⟨rfl, h2⟩
  exact ⟨rfl, h2.below⟩
/-- natShort: quotient and remainder by one limb. -/
theorem natShort_any (u : Value) (m b : Nat) (w : World) (hu : IsNat w u m) (hm : (limbs m).length < 1000000) (hb : 0 < b) (hb1 : b < 1000000000) :
    Calls Tryd.prog 87 #[u, .int .u32 b] w fun e w' => ∃ r, e = .returned (.tuple #[r, .int .u32 ((m % b : Nat) : Int)]) ∧ IsNew w' w.heap.size r (m / b) ∧ Below w.heap.size w w' := by
  obtain ⟨A, c, rfl, hc, hr⟩ := hu
  obtain ⟨k, hk⟩ := natShort_f m b hb hb1 hm
  refine (PnatShort.spec_natShort.calls k A c _ _ _ _ w hr hc hk).mono ?_
  rintro e w' ⟨r, rfl, h1, h2⟩
  exact ⟨r, rfl, h1, h2⟩

theorem info69 : (Tryd.prog.info? 69).map (fun i => (i.zero, i.size, i.bytes)) = some (some (.int .u32 0), 1, 4) := by kernel_rfl

set_option maxHeartbeats 4000000 in
set_option maxRecDepth 100000 in
/-- NatAdd: the sum. -/
theorem natAdd_any (u v : Value) (m n : Nat) (w : World) (hu : IsNat w u m) (hv : IsNat w v n) (hm : (limbs m).length < 1000000) (hn : (limbs n).length < 1000000) :
    Calls Tryd.prog 61 #[u, v] w fun e w' => ∃ r, e = .returned r ∧ IsNew w' w.heap.size r (m + n) ∧ Below w.heap.size w w' := by
  obtain ⟨A, c, rfl, hc, hr⟩ := hu
  obtain ⟨A', c', rfl, hc', hr'⟩ := hv
  have HR := Aside0.mk hr
  have HR' := Aside0.mk hr'
  have HB := Aside0.mk (Below.refl w.heap.size w)
  have hmn : (limbs m).length ≤ (limbs m).length + (limbs n).length := by omega
  clear hr hr' hc hc'
  go_enter Tryd.func61, Tryd.ntmps61
  go_wp2
  go_loopw [5, 6, 7] (fun v5 v6 v7 w' => ∃ (out : List Int) (i q : Nat), v6 = .int .u32 q ∧ v7 = .int .i64 i ∧ q ≤ 1 ∧ Aside0 (out ++ limbs (rest m i + rest n i + q) = limbs (m + n)) ∧ Aside0 (out.length = i) ∧ i ≤ (limbs m).length + (limbs n).length + 1 ∧ Aside0 ((limbs m).length + (limbs n).length < i → q = 0) ∧ Aside0 (Kd.R (Kd.int .u32) 69 w' w.heap.size (fun _ => True) v5 out) ∧ Aside0 (Below w.heap.size w w')) (fun _ _ v7 _ => (limbs m).length + (limbs n).length + 1 - (intOf v7).toNat)
  case atStart => exact ⟨[], 0, 0, rfl, rfl, by omega, ⟨by rw [rest_zero, rest_zero]; rfl⟩, ⟨rfl⟩, by omega, ⟨fun h => by omega⟩, ⟨Kd.R_nil _ _ _ _ _⟩, HB⟩
  case round =>
    clear HB
    obtain ⟨out, i, q, rfl, rfl, hq, HX, HL, hi, HZ, HO, HB⟩ := hrel
    have hl : out.length < 10000000 := by have := HL.out; omega
    have hsm := rest_step m i
    have hsn := rest_step n i
    have hpm := rest_pos m i
    have hpn := rest_pos n i
    have hpm1 := rest_pos m (i + 1)
    have hpn1 := rest_pos n (i + 1)
    obtain ⟨x, hx⟩ : ∃ x, rest m i % 1000000000 = x := ⟨_, rfl⟩
    obtain ⟨y, hy⟩ : ∃ y, rest n i % 1000000000 = y := ⟨_, rfl⟩
    have hxl : x < 1000000000 := by omega
    have hyl : y < 1000000000 := by omega
    rw [hx] at hsm
    rw [hy] at hsn
    by_cases hmore : i < (limbs m).length ∨ i < (limbs n).length ∨ 0 < q
    · have hT : 0 < rest m i + rest n i + q := by omega
      have hi1 : i + 1 ≤ (limbs m).length + (limbs n).length + 1 := by
        rcases hmore with h | h | h
        · omega
        · omega
        · have := HZ.out; omega
      have hZ1 : Aside0 ((limbs m).length + (limbs n).length < i + 1 → (q + x + y) / 1000000000 = 0) := ⟨fun h => by
        have h1 : rest m i = 0 := by omega
        have h2 : rest n i = 0 := by omega
        omega⟩
      have HX1 : Aside0 ((out ++ [(((q + x + y) % 1000000000 : Nat) : Int)]) ++ limbs (rest m (i + 1) + rest n (i + 1) + (q + x + y) / 1000000000) = limbs (m + n)) := ⟨by
        rw [← HX.out, limbs_pos hT, show (rest m i + rest n i + q) % 1000000000 = (q + x + y) % 1000000000 by omega, show (rest m i + rest n i + q) / 1000000000 = rest m (i + 1) + rest n (i + 1) + (q + x + y) / 1000000000 by omega]
        simp⟩
      have HL1 : Aside0 ((out ++ [(((q + x + y) % 1000000000 : Nat) : Int)]).length = i + 1) := ⟨by rw [List.length_append, HL.out]; rfl⟩
      clear hsm hsn hpm1 hpn1 hT HX HL HZ
      by_cases hA : i < (limbs m).length
      · obtain ⟨ad, e0, hc0⟩ := Kd.at_int HR.out (i : Int) (by omega) (by omega)
        have hc1 := (HB.out.cell (World.block_lt_of_cell? w _ hc0)).trans hc0
        unfold rd at hc1
        rw [Int.toNat_natCast, limbs_getD, hx] at hc1
        subst e0
        have hAd : decide ((i : Int) < ((limbs m).length : Int)) = true := decide_eq_true (by omega)
        clear hc0 hx
        by_cases hB : i < (limbs n).length
        · obtain ⟨ad', e0, hc0⟩ := Kd.at_int HR'.out (i : Int) (by omega) (by omega)
          have hc2 := (HB.out.cell (World.block_lt_of_cell? w _ hc0)).trans hc0
          unfold rd at hc2
          rw [Int.toNat_natCast, limbs_getD, hy] at hc2
          subst e0
          have hBd : decide ((i : Int) < ((limbs n).length : Int)) = true := decide_eq_true (by omega)
          clear hc0 hy hpm hpn hmore
          go_wp2_with (first | ((with_reducible refine gate_builtin (b := .append) (xs := #[.tmp 44, .tmp 47]) rfl ?_); at_builtin; go_must (refine Kd.R_append (Kd.int .u32) (w0 := w) w.heap.size rfl (.tmp 44) (.tmp 47) 25 69 (.int .u32 0) 4 rfl Tryd.underlying25 info69 rfl (by decide) (by omega) u5 out (((q : Int) + x + y) % 1000000000) [.int .u32 (((q : Int) + x + y) % 1000000000)] (fun _ => True) (fun _ => False) rfl rfl rfl (fun _ hk => hk.elim) (fun _ _ => trivial) HO.out HB.out HB.out.size (by omega) ?_); intro v1 w1 ho hb hg hat; have HO1 := Aside0.mk ho; have HB1 := Aside0.mk hb; clear ho hb hg hat HO HB))
          go_roundw
          case rel => exact ⟨_, i + 1, (q + x + y) / 1000000000, by go_num, by go_num, by omega, HX1, HL1, hi1, hZ1, by first | exact HO1 | simpa using HO1, HB1⟩
          case measure => simp [intOf]; omega
        · have hBd : decide ((i : Int) < ((limbs n).length : Int)) = false := decide_eq_false (by omega)
          obtain rfl : y = 0 := by omega
          clear hy hpm hpn hmore
          go_wp2_with (first | ((with_reducible refine gate_builtin (b := .append) (xs := #[.tmp 44, .tmp 47]) rfl ?_); at_builtin; go_must (refine Kd.R_append (Kd.int .u32) (w0 := w) w.heap.size rfl (.tmp 44) (.tmp 47) 25 69 (.int .u32 0) 4 rfl Tryd.underlying25 info69 rfl (by decide) (by omega) u5 out (((q : Int) + x) % 1000000000) [.int .u32 (((q : Int) + x) % 1000000000)] (fun _ => True) (fun _ => False) rfl rfl rfl (fun _ hk => hk.elim) (fun _ _ => trivial) HO.out HB.out HB.out.size (by omega) ?_); intro v1 w1 ho hb hg hat; have HO1 := Aside0.mk ho; have HB1 := Aside0.mk hb; clear ho hb hg hat HO HB))
          go_roundw
          case rel => exact ⟨_, i + 1, (q + x + 0) / 1000000000, by go_num, by go_num, by omega, HX1, HL1, hi1, hZ1, by first | exact HO1 | simpa using HO1, HB1⟩
          case measure => simp [intOf]; omega
      · have hAd : decide ((i : Int) < ((limbs m).length : Int)) = false := decide_eq_false (by omega)
        obtain rfl : x = 0 := by omega
        by_cases hB : i < (limbs n).length
        · obtain ⟨ad', e0, hc0⟩ := Kd.at_int HR'.out (i : Int) (by omega) (by omega)
          have hc2 := (HB.out.cell (World.block_lt_of_cell? w _ hc0)).trans hc0
          unfold rd at hc2
          rw [Int.toNat_natCast, limbs_getD, hy] at hc2
          subst e0
          have hBd : decide ((i : Int) < ((limbs n).length : Int)) = true := decide_eq_true (by omega)
          clear hc0 hy hx hpm hpn hmore
          go_wp2_with (first | ((with_reducible refine gate_builtin (b := .append) (xs := #[.tmp 44, .tmp 47]) rfl ?_); at_builtin; go_must (refine Kd.R_append (Kd.int .u32) (w0 := w) w.heap.size rfl (.tmp 44) (.tmp 47) 25 69 (.int .u32 0) 4 rfl Tryd.underlying25 info69 rfl (by decide) (by omega) u5 out (((q : Int) + y) % 1000000000) [.int .u32 (((q : Int) + y) % 1000000000)] (fun _ => True) (fun _ => False) rfl rfl rfl (fun _ hk => hk.elim) (fun _ _ => trivial) HO.out HB.out HB.out.size (by omega) ?_); intro v1 w1 ho hb hg hat; have HO1 := Aside0.mk ho; have HB1 := Aside0.mk hb; clear ho hb hg hat HO HB))
          go_roundw
          case rel => exact ⟨_, i + 1, (q + 0 + y) / 1000000000, by go_num, by go_num, by omega, HX1, HL1, hi1, hZ1, by first | exact HO1 | simpa using HO1, HB1⟩
          case measure => simp [intOf]; omega
        · have hBd : decide ((i : Int) < ((limbs n).length : Int)) = false := decide_eq_false (by omega)
          obtain rfl : y = 0 := by omega
          obtain rfl : q = 1 := by omega
          clear hy hx hpm hpn hmore
          go_wp2_with (first | ((with_reducible refine gate_builtin (b := .append) (xs := #[.tmp 44, .tmp 47]) rfl ?_); at_builtin; go_must (refine Kd.R_append (Kd.int .u32) (w0 := w) w.heap.size rfl (.tmp 44) (.tmp 47) 25 69 (.int .u32 0) 4 rfl Tryd.underlying25 info69 rfl (by decide) (by omega) u5 out (1) [.int .u32 (1)] (fun _ => True) (fun _ => False) rfl rfl rfl (fun _ hk => hk.elim) (fun _ _ => trivial) HO.out HB.out HB.out.size (by omega) ?_); intro v1 w1 ho hb hg hat; have HO1 := Aside0.mk ho; have HB1 := Aside0.mk hb; clear ho hb hg hat HO HB))
          go_roundw
          case rel => exact ⟨_, i + 1, 0, by go_num, by go_num, by omega, HX1, HL1, hi1, hZ1, by first | exact HO1 | simpa using HO1, HB1⟩
          case measure => simp [intOf]; omega
    · obtain rfl : q = 0 := by omega
      have h1 : rest m i = 0 := by omega
      have h2 : rest n i = 0 := by omega
      have HE : Aside0 (out = limbs (m + n)) := ⟨by rw [← HX.out, h1, h2, limbs_zero]; simp⟩
      have hA : ¬ i < (limbs m).length := by omega
      have hB : ¬ i < (limbs n).length := by omega
      clear hsm hsn hpm hpn hpm1 hpn1 hx hy hxl hyl h1 h2 hmore HX HL HZ
      go_wp2
      go_ret
      exact ⟨_, rfl, V_of_R (by rw [← HE.out]; exact HO.out), HB.out⟩
end Go.Proofs.YthkmgjkajllemaaDoor.NatOps

/- NatSub: the difference of two numbers, and natTrim. -/
namespace Go.Proofs.YthkmgjkajllemaaDoor.NatOps
open Go.RowKit Go.Proofs.YthkmgjkajllemaaDoorW.PrintWords Go.Proofs.YthkmgjkajllemaaDoorW.PrintLast Go.Proofs.YthkmgjkajllemaaDoorW.PrintMore Go.Proofs.YthkmgjkajllemaaDoor.Num Go.Proofs.YthkmgjkajllemaaDoor.Str Go.Proofs.YthkmgjkajllemaaDoor.Nats Go.Proofs.YthkmgjkajllemaaDoor.Val Go.Proofs.YthkmgjkajllemaaDoor.Arith
set_option linter.unusedVariables false
set_option linter.unusedSimpArgs false

/-- natTrim: a list of limbs without the zeros at its end. -/
theorem natTrim_any (b : Nat) (u : Value) (l : List Int) (w : World) (hu : Kd.V (Kd.int .u32) 69 w b (fun k => b ≤ k) u l) (hd : Digs l) (hl : l.length < 1000000000) (hb : b ≤ w.heap.size) :
    Calls Tryd.prog 86 #[u] w fun e w' => ∃ r, e = .returned r ∧ IsNew w' b r (val l).toNat ∧ Below w.heap.size w w' := by
  obtain ⟨A, c, rfl, hc, hr⟩ := hu
  have h := natTrim_go l.length l (l.length + 1) rfl hd (by omega) (by omega)
  refine (PNatMul.spec_natTrim.calls (l.length + 1) (fun k => b ≤ k) A c l _ w ⟨A, c, rfl, hc, hr⟩ h).mono ?_
  rintro e w' ⟨r, rfl, h1, h2⟩
  refine ⟨r, rfl, ?_, h2⟩
  exact Kd.V_mono (Kd.V_lower h1 hb) (fun k hk => hk.elim id (fun h => Nat.le_trans hb h))

/-- How far the difference has come. -/
structure Sub (m n i q : Nat) (out : List Int) : Prop where
  len : out.length = i
  digs : Digs out
  worth : val out + (1000000000 : Int) ^ i * ((rest m i : Int) - rest n i - q) = (m : Int) - n
theorem Sub.step {m n i q : Nat} {out : List Int} (h : Sub m n i q out) (x y d q' : Nat) (hx : rest m i % 1000000000 = x) (hy : rest n i % 1000000000 = y) (hd : (d : Int) = (x : Int) - y - q + 1000000000 * q') (hl : d < 1000000000) :
    Sub m n (i + 1) q' (out ++ [(d : Int)]) := by
  have hsm := rest_step m i
  have hsn := rest_step n i
  rw [hx] at hsm
  rw [hy] at hsn
  refine ⟨by rw [List.length_append, h.len]; rfl, h.digs.append (Digs.one (by omega) (by show _ < (1000000000 : Int); omega)), ?_⟩
  have hw := h.worth
  rw [val_append, h.len, Int.pow_succ]
  rw [hsm, hsn] at hw
  simp only [val, Int.natCast_add, Int.natCast_mul] at hw ⊢
  generalize (1000000000 : Int) ^ i = P at *
  generalize (rest m (i + 1) : Int) = M at *
  generalize (rest n (i + 1) : Int) = N at *
  rw [hd]
  rw [← hw]
  have e : ((1000000000 : Nat) : Int) = 1000000000 := rfl
  rw [e]
  grind
theorem Sub.done {m n q : Nat} {out : List Int} (h : Sub m n (limbs m).length q out) (hmn : n ≤ m) : (val out).toNat = m - n := by
  have hw := h.worth
  have h1 : rest n (limbs m).length = 0 := by
    rcases Nat.eq_zero_or_pos (rest n (limbs m).length) with h2 | h2
    · exact h2
    · exact absurd (limbs_len_lt m n ((rest_pos n _).2 h2)) (by omega)
  rw [rest_done, h1] at hw
  have hlt := val_lt h.digs
  rw [h.len] at hlt
  have hn := val_nonneg h.digs
  rcases Nat.eq_zero_or_pos q with h2 | h2
  · subst h2
    simp at hw
    omega
  · have hp := pow_pos (limbs m).length
    have : (1000000000 : Int) ^ (limbs m).length * 1 ≤ (1000000000 : Int) ^ (limbs m).length * q := Int.mul_le_mul_of_nonneg_left (by omega) (by omega)
    have e : ((0 : Nat) : Int) - ((0 : Nat) : Int) - (q : Int) = -(q : Int) := by omega
    rw [e, Int.mul_neg] at hw
    omega

set_option maxHeartbeats 4000000 in
set_option maxRecDepth 100000 in
/-- NatSub: the difference. -/
theorem natSub_any (u v : Value) (m n : Nat) (w : World) (hu : IsNat w u m) (hv : IsNat w v n) (hm : (limbs m).length < 1000000) (hmn : n ≤ m) :
    Calls Tryd.prog 67 #[u, v] w fun e w' => ∃ r, e = .returned r ∧ IsNew w' w.heap.size r (m - n) ∧ Below w.heap.size w w' := by
  have hn : (limbs n).length ≤ (limbs m).length := by
    rcases Nat.lt_or_ge (limbs m).length (limbs n).length with h | h
    · exact absurd (limbs_len_lt m n h) (by omega)
    · exact h
  obtain ⟨A, c, rfl, hc, hr⟩ := hu
  obtain ⟨A', c', rfl, hc', hr'⟩ := hv
  have HR := Aside0.mk hr
  have HR' := Aside0.mk hr'
  have HB := Aside0.mk (Below.refl w.heap.size w)
  have HMN := Aside0.mk hmn
  clear hr hr' hc hc' hmn
  go_enter Tryd.func67, Tryd.ntmps67
  go_wp2
  go_loopw [5, 6, 12] (fun v5 v6 v12 w' => ∃ (out : List Int) (i q : Nat), v6 = .int .u32 q ∧ v12 = .int .i64 i ∧ q ≤ 1 ∧ Aside0 (Sub m n i q out) ∧ i ≤ (limbs m).length ∧ Aside0 (Kd.R (Kd.int .u32) 69 w' w.heap.size (fun _ => True) v5 out) ∧ Aside0 (Below w.heap.size w w')) (fun _ _ v12 _ => (limbs m).length - (intOf v12).toNat)
  case atStart => exact ⟨[], 0, 0, rfl, rfl, by omega, ⟨⟨rfl, Digs.nil, by rw [rest_zero, rest_zero]; simp [val]⟩⟩, by omega, ⟨Kd.R_nil _ _ _ _ _⟩, HB⟩
  case round =>
    clear HB
    obtain ⟨out, i, q, rfl, rfl, hq, HS, hi, HO, HB⟩ := hrel
    have hl : out.length < 10000000 := by have := HS.out.len; omega
    obtain ⟨x, hx⟩ : ∃ x, rest m i % 1000000000 = x := ⟨_, rfl⟩
    obtain ⟨y, hy⟩ : ∃ y, rest n i % 1000000000 = y := ⟨_, rfl⟩
    have hxl : x < 1000000000 := by omega
    have hyl : y < 1000000000 := by omega
    have hpn := rest_pos n i
    by_cases hA : i < (limbs m).length
    · obtain ⟨ad, e0, hc0⟩ := Kd.at_int HR.out (i : Int) (by omega) (by omega)
      have hc1 := (HB.out.cell (World.block_lt_of_cell? w _ hc0)).trans hc0
      unfold rd at hc1
      rw [Int.toNat_natCast, limbs_getD, hx] at hc1
      subst e0
      clear hc0
      have HST := Aside0.mk (fun d q' h1 h2 => HS.out.step x y d q' hx hy h1 h2)
      by_cases hB : i < (limbs n).length
      · obtain ⟨ad', e0, hc0⟩ := Kd.at_int HR'.out (i : Int) (by omega) (by omega)
        have hc2 := (HB.out.cell (World.block_lt_of_cell? w _ hc0)).trans hc0
        unfold rd at hc2
        rw [Int.toNat_natCast, limbs_getD, hy] at hc2
        subst e0
        clear hc0 hy hx hpn HS
        by_cases hlt : x < q + y
        · have hltb : decide ((x : Int) < (q : Int) + y) = true := decide_eq_true (by omega)
          obtain ⟨d, hd⟩ : ∃ d : Nat, (d : Int) = (x : Int) + 1000000000 - ((q : Int) + y) := ⟨x + 1000000000 - (q + y), by omega⟩
          have HN := Aside0.mk (HST.out d 1 (by omega) (by omega))
          have hdl : d < 1000000000 := by omega
          have HD := Aside0.mk hd
          clear HST hd
          go_wp2_with (first | ((with_reducible refine gate_builtin (b := .append) (xs := #[.tmp 33, .tmp 37]) rfl ?_); at_builtin; go_must (refine Kd.R_append (Kd.int .u32) (w0 := w) w.heap.size rfl (.tmp 33) (.tmp 37) 25 69 (.int .u32 0) 4 rfl Tryd.underlying25 info69 rfl (by decide) (by omega) u5 out ((x : Int) + 1000000000 - ((q : Int) + y)) [.int .u32 ((x : Int) + 1000000000 - ((q : Int) + y))] (fun _ => True) (fun _ => False) rfl rfl rfl (fun _ hk => hk.elim) (fun _ _ => trivial) HO.out HB.out HB.out.size (by omega) ?_); intro v1 w1 ho hb hg hat; have HO1 := Aside0.mk ho; have HB1 := Aside0.mk hb; clear ho hb hg hat HO HB))
          go_roundw
          case rel => exact ⟨_, i + 1, 1, by go_num, by go_num, by omega, HN, by omega, by first | exact HO1 | (rw [HD.out]; exact HO1), HB1⟩
          case measure => simp [intOf]; omega
        · have hltb : decide ((x : Int) < (q : Int) + y) = false := decide_eq_false (by omega)
          obtain ⟨d, hd⟩ : ∃ d : Nat, (d : Int) = (x : Int) - ((q : Int) + y) := ⟨x - (q + y), by omega⟩
          have HN := Aside0.mk (HST.out d 0 (by omega) (by omega))
          have hdl : d < 1000000000 := by omega
          have HD := Aside0.mk hd
          clear HST hd
          go_wp2_with (first | ((with_reducible refine gate_builtin (b := .append) (xs := #[.tmp 33, .tmp 37]) rfl ?_); at_builtin; go_must (refine Kd.R_append (Kd.int .u32) (w0 := w) w.heap.size rfl (.tmp 33) (.tmp 37) 25 69 (.int .u32 0) 4 rfl Tryd.underlying25 info69 rfl (by decide) (by omega) u5 out ((x : Int) - ((q : Int) + y)) [.int .u32 ((x : Int) - ((q : Int) + y))] (fun _ => True) (fun _ => False) rfl rfl rfl (fun _ hk => hk.elim) (fun _ _ => trivial) HO.out HB.out HB.out.size (by omega) ?_); intro v1 w1 ho hb hg hat; have HO1 := Aside0.mk ho; have HB1 := Aside0.mk hb; clear ho hb hg hat HO HB))
          go_roundw
          case rel => exact ⟨_, i + 1, 0, by go_num, by go_num, by omega, HN, by omega, by first | exact HO1 | (rw [HD.out]; exact HO1), HB1⟩
          case measure => simp [intOf]; omega
      · obtain rfl : y = 0 := by omega
        clear hy hx hpn HS
        by_cases hlt : x < q
        · have hltb : decide ((x : Int) < (q : Int)) = true := decide_eq_true (by omega)
          obtain ⟨d, hd⟩ : ∃ d : Nat, (d : Int) = (x : Int) + 1000000000 - (q : Int) := ⟨x + 1000000000 - q, by omega⟩
          have HN := Aside0.mk (HST.out d 1 (by omega) (by omega))
          have hdl : d < 1000000000 := by omega
          have HD := Aside0.mk hd
          clear HST hd
          go_wp2_with (first | ((with_reducible refine gate_builtin (b := .append) (xs := #[.tmp 33, .tmp 37]) rfl ?_); at_builtin; go_must (refine Kd.R_append (Kd.int .u32) (w0 := w) w.heap.size rfl (.tmp 33) (.tmp 37) 25 69 (.int .u32 0) 4 rfl Tryd.underlying25 info69 rfl (by decide) (by omega) u5 out ((x : Int) + 1000000000 - (q : Int)) [.int .u32 ((x : Int) + 1000000000 - (q : Int))] (fun _ => True) (fun _ => False) rfl rfl rfl (fun _ hk => hk.elim) (fun _ _ => trivial) HO.out HB.out HB.out.size (by omega) ?_); intro v1 w1 ho hb hg hat; have HO1 := Aside0.mk ho; have HB1 := Aside0.mk hb; clear ho hb hg hat HO HB))
          go_roundw
          case rel => exact ⟨_, i + 1, 1, by go_num, by go_num, by omega, HN, by omega, by first | exact HO1 | (rw [HD.out]; exact HO1), HB1⟩
          case measure => simp [intOf]; omega
        · have hltb : decide ((x : Int) < (q : Int)) = false := decide_eq_false (by omega)
          obtain ⟨d, hd⟩ : ∃ d : Nat, (d : Int) = (x : Int) - (q : Int) := ⟨x - q, by omega⟩
          have HN := Aside0.mk (HST.out d 0 (by omega) (by omega))
          have hdl : d < 1000000000 := by omega
          have HD := Aside0.mk hd
          clear HST hd
          go_wp2_with (first | ((with_reducible refine gate_builtin (b := .append) (xs := #[.tmp 33, .tmp 37]) rfl ?_); at_builtin; go_must (refine Kd.R_append (Kd.int .u32) (w0 := w) w.heap.size rfl (.tmp 33) (.tmp 37) 25 69 (.int .u32 0) 4 rfl Tryd.underlying25 info69 rfl (by decide) (by omega) u5 out ((x : Int) - (q : Int)) [.int .u32 ((x : Int) - (q : Int))] (fun _ => True) (fun _ => False) rfl rfl rfl (fun _ hk => hk.elim) (fun _ _ => trivial) HO.out HB.out HB.out.size (by omega) ?_); intro v1 w1 ho hb hg hat; have HO1 := Aside0.mk ho; have HB1 := Aside0.mk hb; clear ho hb hg hat HO HB))
          go_roundw
          case rel => exact ⟨_, i + 1, 0, by go_num, by go_num, by omega, HN, by omega, by first | exact HO1 | (rw [HD.out]; exact HO1), HB1⟩
          case measure => simp [intOf]; omega
    · obtain rfl : i = (limbs m).length := by omega
      have HD := Aside0.mk (HS.out.done HMN.out)
      have HT := Aside0.mk (natTrim_any w.heap.size u5 out wr (V_of_R HO.out) HS.out.digs (by omega) HB.out.size)
      obtain ⟨A5, c5, rfl⟩ := Kd.R_slice HO.out
      clear hx hy hpn
      go_wp2_with (first | (go_at_call 86; go_must (refine HT.out.mono ?_); rintro e w2 ⟨r, rfl, hn2, hb⟩; have HN := Aside0.mk hn2; have HB2 := Aside0.mk (HB.out.trans (hb.mono HB.out.size)); clear hn2 hb))
      go_ret
      exact ⟨_, rfl, by rw [← HD.out]; exact HN.out, HB2.out⟩
end Go.Proofs.YthkmgjkajllemaaDoor.NatOps

/- NatDiv: quotient and remainder of two numbers. -/
namespace Go.Proofs.YthkmgjkajllemaaDoor.NatOps
open Go.RowKit Go.Proofs.YthkmgjkajllemaaDoorW.PrintWords Go.Proofs.YthkmgjkajllemaaDoorW.PrintLast Go.Proofs.YthkmgjkajllemaaDoorW.PrintMore Go.Proofs.YthkmgjkajllemaaDoor.Num Go.Proofs.YthkmgjkajllemaaDoor.Str Go.Proofs.YthkmgjkajllemaaDoor.Nats Go.Proofs.YthkmgjkajllemaaDoor.Val Go.Proofs.YthkmgjkajllemaaDoor.Arith
set_option linter.unusedVariables false
set_option linter.unusedSimpArgs false

theorem limbs_one (n : Nat) (h : 0 < n) (h1 : n < 1000000000) : limbs n = [(n : Int)] := by
  rw [limbs_pos h, show n / 1000000000 = 0 by omega, limbs_zero, show n % 1000000000 = n by omega]

set_option maxHeartbeats 2000000 in
theorem natDiv_less (u v : Value) (m n : Nat) (w : World) (hu : IsNat w u m) (hv : IsNat w v n) (hm : (limbs m).length < 1000000) (hn : (limbs n).length < 1000000) (hlt : m < n) :
    Calls Tryd.prog 58 #[u, v] w fun e w' => ∃ q r, e = .returned (.tuple #[q, r]) ∧ IsNew w' w.heap.size q (m / n) ∧ IsNew w' w.heap.size r (m % n) ∧ Below w.heap.size w w' := by
  have HC := Aside0.mk (natCmp_any u v m n w hu hv hm hn)
  have hc : cmp m n = -1 := by unfold cmp; rw [if_pos hlt]
  rw [hc] at HC
  rw [Nat.div_eq_of_lt hlt, Nat.mod_eq_of_lt hlt]
  obtain ⟨A, c, rfl, hc, hr⟩ := hu
  obtain ⟨A', c', rfl, hc', hr'⟩ := hv
  have HR := Aside0.mk hr
  clear hr hr' hc hc' hlt
  go_enter Tryd.func58, Tryd.ntmps58
  go_wp2_with (first | (go_at_call 60; go_must (refine HC.out.mono ?_); rintro e w1 ⟨rfl, hb⟩; have HB := Aside0.mk hb; have HR1 := Aside0.mk (Kd.C_below HR.out hb); clear hb) | ((with_reducible refine gate_dst (N := 18) rfl ?_); go_must (refine Kd.R_lit (w0 := w) (Kd.int .u32) w.heap.size 69 rfl (N := 18) rfl (xs := ([] : List Int)) (inner := []) (ok := fun _ => True) (okp := fun _ => True) (by first | (go_simp; done) | (go_simp; rfl)) (Reps.none _ _) (fun _ hk => hk) trivial HB.out HB.out.size (by simp) ?_); intro v5 w2 ho hb hg hn; have HO := Aside0.mk ho; have HB2 := Aside0.mk hb; have HR2 := Aside0.mk (Kd.C_below HR1.out ((Below.refl _ _).grown hg (Nat.le_refl _) (fun k h => by cases h))); clear ho hb hg hn) | ((with_reducible refine gate_builtin (b := .append) (xs := #[.tmp 18, .tmp 19]) rfl ?_); at_builtin; go_must (refine Kd.R_append_rows (Kd.int .u32) (Rr := (Kd.int .u32).K w1) (w0 := w) w.heap.size rfl (.tmp 18) (.tmp 19) 25 69 (.int .u32 0) 4 rfl Tryd.underlying25 info69 rfl (by decide) (by omega) v5 [] (limbs m) A (limbs m).length c (fun _ => True) (fun _ => False) rfl rfl HO.out HR2.out (fun _ _ h => h) (fun _ hk => hk.elim) (fun _ _ => trivial) HB2.out HB2.out.size (by simp; omega) ?_); intro v6 w3 ho hb hg hat; obtain ⟨A6, c6, rfl⟩ := Kd.R_slice ho; have HO3 := Aside0.mk ho; have HB3 := Aside0.mk hb; clear ho hb hg hat))
  exact bodyPost_ret (v := .tuple #[.slice none 0 0, .slice A6 ([] ++ limbs m).length c6]) (by simp [results, Tryd.results58]) rfl ⟨_, _, rfl, by unfold IsNew; rw [limbs_zero]; exact V_of_R (ok := fun _ => True) (Kd.R_nil _ _ _ _ _), V_of_R HO3.out, HB3.out⟩

set_option maxHeartbeats 2000000 in
theorem natDiv_short (u v : Value) (m n : Nat) (w : World) (hu : IsNat w u m) (hv : IsNat w v n) (hm : (limbs m).length < 1000000) (h0 : 0 < n) (hn : n < 1000000000) (hle : n ≤ m) :
    Calls Tryd.prog 58 #[u, v] w fun e w' => ∃ q r, e = .returned (.tuple #[q, r]) ∧ IsNew w' w.heap.size q (m / n) ∧ IsNew w' w.heap.size r (m % n) ∧ Below w.heap.size w w' := by
  have hln := limbs_one n h0 hn
  have hmod : m % n < 1000000000 := Nat.lt_trans (Nat.mod_lt m h0) hn
  have HC := Aside0.mk (natCmp_any u v m n w hu hv hm (by rw [hln]; simp))
  have HS := Aside0.mk (fun W hW => natShort_any u m n W hW hm h0 hn)
  have HF := Aside0.mk (fun W => natFrom_new (m % n) W (by omega))
  obtain ⟨t, ht, hg⟩ : ∃ t, cmp m n = t ∧ decide (t < 0) = false := by
    refine ⟨_, rfl, decide_eq_false ?_⟩
    unfold cmp
    split
    · omega
    · split <;> omega
  rw [ht] at HC
  have HU := Aside0.mk hu
  obtain ⟨A, c, rfl, hc, hr⟩ := hu
  obtain ⟨A', c', rfl, hc', hr'⟩ := hv
  obtain ⟨ad, e0, hc0⟩ := Kd.at_int hr' (0 : Int) (by omega) (by rw [hln]; simp)
  unfold rd at hc0
  rw [hln] at hc0
  simp only [Int.toNat_zero, List.getD_cons_zero] at hc0
  have hc0 : w.cell? ad = some (.int .u32 (n : Int)) := by rw [Addr.add_zero'] at hc0; exact hc0
  rw [hln] at HC ⊢
  subst e0
  have hcw : ∀ w1, Below w.heap.size w w1 → w1.cell? ad = some (.int .u32 (n : Int)) := fun w1 hb => pw_cell_below hb hc0
  have HCW := Aside0.mk hcw
  generalize m % n = r at HS HF hmod ⊢
  generalize m / n = q at HS ⊢
  clear hr hr' hc hc' hle ht hcw hc0 hln h0 hn hm
  go_enter Tryd.func58, Tryd.ntmps58
  go_wp2_with (first | (go_at_call 60; go_must (refine HC.out.mono ?_); rintro e w1 ⟨rfl, hb⟩; have HB := Aside0.mk hb; have c1 := HCW.out _ hb; clear hb) | (go_at_call 87; go_must (refine (HS.out _ (HU.out.below HB.out)).mono ?_); rintro e w2 ⟨v2, rfl, hn2, hb⟩; obtain ⟨A2, c2, rfl⟩ := hn2.slice; have HQ := Aside0.mk (hn2.lower HB.out.size); have HB2 := Aside0.mk (HB.out.trans (hb.mono HB.out.size)); clear hn2 hb) | (go_at_call 11; go_must (refine (HF.out _).mono ?_); rintro e w3 ⟨v3, rfl, hn3, hb⟩; obtain ⟨A3, c3, rfl⟩ := hn3.slice; have HQ3 := Aside0.mk (HQ.out.below hb); have HR3 := Aside0.mk (hn3.lower HB2.out.size); have HB3 := Aside0.mk (HB2.out.trans (hb.mono HB2.out.size)); clear hn3 hb))
  exact bodyPost_ret (v := .tuple #[.slice A2 (limbs q).length c2, .slice A3 (limbs r).length c3]) (by simp [results, Tryd.results58]) rfl ⟨_, _, rfl, HQ3.out, HR3.out, HB3.out⟩
end Go.Proofs.YthkmgjkajllemaaDoor.NatOps

/- Decimals of govalues are made of parts as they should be, and told back as parts. -/
namespace Go.Proofs.YthkmgjkajllemaaDoor.Make
open Go.RowKit
set_option linter.unusedVariables false
set_option linter.unusedSimpArgs false

/-- The two package-level errors that are handed back are none that is nil. -/
structure ErrAt (w : World) : Prop where
  range : ∃ t v, w.cell? ⟨2, 0, none⟩ = some (.iface t v)
  over : ∃ t v, w.cell? ⟨3, 0, none⟩ = some (.iface t v)
  low : 3 < w.heap.size
theorem ErrAt.below {w w' : World} (h : ErrAt w) (hb : Below w.heap.size w w') : ErrAt w' := by
  obtain ⟨⟨t, v, h1⟩, ⟨t2, v2, h2⟩, h3⟩ := h
  exact ⟨⟨t, v, (hb.cell (p := ⟨2, 0, none⟩) (by show 2 < _; omega)).trans h1⟩, ⟨t2, v2, (hb.cell (p := ⟨3, 0, none⟩) h3).trans h2⟩, Nat.lt_of_lt_of_le h3 hb.size⟩

theorem below_one {w w1 : World} (o : Obj) (h : Below (w.alloc o).heap.size (w.alloc o) w1) : Below w.heap.size w w1 :=
  ((Below.refl _ _).alloc (Nat.le_refl _) o).trans (h.mono (by simp))
theorem below_at {w w1 : World} (h : Below w.heap.size w w1) (o : Obj) : Below w.heap.size w (w1.alloc o) := h.alloc h.size o
theorem below_by {w w1 w2 : World} (h : Below w.heap.size w w1) (k : Below w1.heap.size w1 w2) : Below w.heap.size w w2 := h.trans (k.mono h.size)

theorem newUnsafe_any (neg : Bool) (c s : Nat) (w : World) (hs : s ≤ 19) :
    Calls Tryd.prog 85 #[.bool neg, .int .u64 c, .int .i64 s] w fun e w' => e = .returned (.agg #[.bool (neg && decide (0 < c)), .int .i8 s, .int .u64 c]) ∧ Below w.heap.size w w' := by
  by_cases hc : c = 0
  · subst hc
    have hv : (.int .u64 ((0 : Nat) : Int) : Value) = .int .u64 0 := rfl
    rw [hv]
    have e0 : (neg && decide (0 < 0)) = false := by simp
    rw [e0]
    clear hv e0
    go_enter Tryd.func85, Tryd.ntmps85
    go_wp2
    exact bodyPost_ret (v := .agg #[.bool false, .int .i8 s, .int .u64 0]) (by simp [results, Tryd.results85, go_sem]) rfl ⟨rfl, (Below.refl _ _).alloc (Nat.le_refl _) _⟩
  · have h0 : ((c : Int) == 0) = false := beq_eq_false_iff_ne.2 (by omega)
    have e0 : (neg && decide (0 < c)) = neg := by simp [show 0 < c by omega]
    rw [e0]
    clear e0 hc
    go_enter Tryd.func85, Tryd.ntmps85
    go_wp2
    exact bodyPost_ret (v := .agg #[.bool neg, .int .i8 s, .int .u64 c]) (by simp [results, Tryd.results85, go_sem]) rfl ⟨rfl, (Below.refl _ _).alloc (Nat.le_refl _) _⟩

/-- A block of three cells that may be written. -/
structure C3 (w : World) (g : Nat) (a b c : Value) : Prop where
  c0 : w.cell? ⟨g, 0, none⟩ = some a
  c1 : w.cell? ⟨g, 1, none⟩ = some b
  c2 : w.cell? ⟨g, 2, none⟩ = some c
  f0 : w.frozen? ⟨g, 0, none⟩ = false
  f1 : w.frozen? ⟨g, 1, none⟩ = false
  f2 : w.frozen? ⟨g, 2, none⟩ = false
  lt : g < w.heap.size
theorem C3.below {w w1 : World} {g : Nat} {a b c : Value} (h : C3 w g a b c) (hb : Below w.heap.size w w1) : C3 w1 g a b c :=
  ⟨(hb.cell h.lt).trans h.c0, (hb.cell h.lt).trans h.c1, (hb.cell h.lt).trans h.c2, (hb.frozen h.lt).trans h.f0, (hb.frozen h.lt).trans h.f1, (hb.frozen h.lt).trans h.f2, Nat.lt_of_lt_of_le h.lt hb.size⟩
theorem C3.new (w : World) (a b c : Value) (T : TypeId) : C3 (w.alloc (.cells #[a, b, c] T)) w.heap.size a b c :=
  ⟨by simp, by simp, by simp, by simp, by simp, by simp, by simp⟩
/-- What a block of three cells that was just made tells behind a call. -/
theorem made3 {w w1 : World} {a b c : Value} {T : TypeId} (h : Below (w.alloc (.cells #[a, b, c] T)).heap.size (w.alloc (.cells #[a, b, c] T)) w1) :
    C3 w1 w.heap.size a b c ∧ Below w.heap.size w w1 := ⟨(C3.new w a b c T).below h, below_one _ h⟩

/-- A block of two cells that may be written. -/
structure C2 (w : World) (g : Nat) (a b : Value) : Prop where
  c0 : w.cell? ⟨g, 0, none⟩ = some a
  c1 : w.cell? ⟨g, 1, none⟩ = some b
  f0 : w.frozen? ⟨g, 0, none⟩ = false
  f1 : w.frozen? ⟨g, 1, none⟩ = false
  lt : g < w.heap.size
theorem C2.below {w w1 : World} {g : Nat} {a b : Value} (h : C2 w g a b) (hb : Below w.heap.size w w1) : C2 w1 g a b :=
  ⟨(hb.cell h.lt).trans h.c0, (hb.cell h.lt).trans h.c1, (hb.frozen h.lt).trans h.f0, (hb.frozen h.lt).trans h.f1, Nat.lt_of_lt_of_le h.lt hb.size⟩
theorem C2.new (w : World) (a b : Value) (T : TypeId) : C2 (w.alloc (.cells #[a, b] T)) w.heap.size a b :=
  ⟨by simp, by simp, by simp, by simp, by simp⟩
theorem made2 {w w1 : World} {a b : Value} {T : TypeId} (h : Below (w.alloc (.cells #[a, b] T)).heap.size (w.alloc (.cells #[a, b] T)) w1) :
    C2 w1 w.heap.size a b ∧ Below w.heap.size w w1 := ⟨(C2.new w a b T).below h, below_one _ h⟩

theorem newSafe_ok (neg : Bool) (c s : Nat) (w : World) (hs : s ≤ 19) (hc : c ≤ 9999999999999999999) :
    Calls Tryd.prog 80 #[.bool neg, .int .u64 c, .int .i64 s] w fun e w' => e = .returned (.tuple #[.agg #[.bool (neg && decide (0 < c)), .int .i8 s, .int .u64 c], .nilIface]) ∧ Below w.heap.size w w' := by
  have HU := Lib.hid (newUnsafe_any neg c s)
  generalize (neg && decide (0 < c)) = b at HU
  go_enter Tryd.func80, Tryd.ntmps80
  go_wp2_with (first | (go_at_call 85; refine (HU.out _ hs).mono ?_; rintro e w1 ⟨rfl, hb⟩; obtain ⟨H3, hb1⟩ := made3 hb; obtain ⟨c0, c1, c2, f0, f1, f2, hz⟩ := H3; have HB := Lib.hid hb1; clear hb hb1))
  exact bodyPost_ret (v := .tuple #[.agg #[.bool b, .int .i8 s, .int .u64 c], .nilIface]) (by simp [results, Tryd.results80, go_sem, c0, c1, c2, f0, f1, f2, hz]) rfl ⟨rfl, ((HB.out.setCell (Nat.le_refl _) _).setCell (Nat.le_refl _) _).setCell (Nat.le_refl _) _⟩

/-- Cells of elder blocks stand when one is made. -/
theorem old_cell {w : World} {b : Nat} {v : Value} (h : w.cell? ⟨b, 0, none⟩ = some v) (hl : b < w.heap.size) (o : Obj) : (w.alloc o).cell? ⟨b, 0, none⟩ = some v :=
  (((Below.refl w.heap.size w).alloc (Nat.le_refl _) o).cell (p := ⟨b, 0, none⟩) hl).trans h

theorem newSafe_range (neg : Bool) (c : Nat) (s : Int) (w : World) (hs : s < 0 ∨ 19 < s) (he : ErrAt w) :
    Calls Tryd.prog 80 #[.bool neg, .int .u64 c, .int .i64 s] w fun e w' => (∃ t v, e = .returned (.tuple #[.agg #[.bool false, .int .i8 0, .int .u64 0], .iface t v])) ∧ Below w.heap.size w w' := by
  obtain ⟨⟨t, v, h1⟩, _, hl⟩ := he
  have hl2 : 2 < w.heap.size := by omega
  have hA := old_cell h1 hl2
  by_cases h0 : s < 0
  · have g0 : decide (s < 0) = true := decide_eq_true h0
    clear hs h1 h0
    go_enter Tryd.func80, Tryd.ntmps80
    go_wp2
    go_region
    go_wp2
    exact bodyPost_ret (v := .tuple #[.agg #[.bool false, .int .i8 0, .int .u64 0], .iface t v]) (by simp [results, Tryd.results80, go_sem]) rfl ⟨⟨t, v, rfl⟩, by repeat (first | exact Below.refl _ _ | apply Below.drew | refine Below.setCell ?_ (Nat.le_refl _) _ | refine Below.alloc ?_ (Nat.le_refl _) _)⟩
  · have g0 : decide (s < 0) = false := decide_eq_false h0
    have g1 : decide (19 < s) = true := decide_eq_true (by omega)
    clear hs h1 h0
    go_enter Tryd.func80, Tryd.ntmps80
    go_wp2
    go_region
    go_wp2
    exact bodyPost_ret (v := .tuple #[.agg #[.bool false, .int .i8 0, .int .u64 0], .iface t v]) (by simp [results, Tryd.results80, go_sem]) rfl ⟨⟨t, v, rfl⟩, by repeat (first | exact Below.refl _ _ | apply Below.drew | refine Below.setCell ?_ (Nat.le_refl _) _ | refine Below.alloc ?_ (Nat.le_refl _) _)⟩

theorem newSafe_over (neg : Bool) (c s : Nat) (w : World) (hs : s ≤ 19) (hc : 9999999999999999999 < c) (he : ErrAt w) :
    Calls Tryd.prog 80 #[.bool neg, .int .u64 c, .int .i64 s] w fun e w' => (∃ t v, e = .returned (.tuple #[.agg #[.bool false, .int .i8 0, .int .u64 0], .iface t v])) ∧ Below w.heap.size w w' := by
  obtain ⟨_, ⟨t, v, h1⟩, hl⟩ := he
  have hA := old_cell h1 hl
  have g0 : decide ((s : Int) < 0) = false := decide_eq_false (by omega)
  have g1 : decide ((19 : Int) < s) = false := decide_eq_false (by omega)
  have g2 : decide ((9999999999999999999 : Int) < c) = true := decide_eq_true (by omega)
  clear hs h1 hc
  go_enter Tryd.func80, Tryd.ntmps80
  go_wp2
  go_region
  go_wp2
  exact bodyPost_ret (v := .tuple #[.agg #[.bool false, .int .i8 0, .int .u64 0], .iface t v]) (by simp [results, Tryd.results80, go_sem]) rfl ⟨⟨t, v, rfl⟩, by repeat (first | exact Below.refl _ _ | apply Below.drew | refine Below.setCell ?_ (Nat.le_refl _) _ | refine Below.alloc ?_ (Nat.le_refl _) _)⟩

/-- The parts of a decimal are told back. -/
theorem fix_any (b : Bool) (s c : Nat) (w : World) (hs : s ≤ 19) :
    Calls Tryd.prog 45 #[.agg #[.bool b, .int .i8 s, .int .u64 c]] w fun e w' => e = .returned (.agg #[.bool b, .int .u64 c, .int .i64 s]) ∧ Below w.heap.size w w' := by
  refine Pfix.impl_fix.calls b s c b c s w ?_
  simp only [Pfix.impl_fix.f, Pfix.govalues_Decimal_IsNeg.f, Pfix.govalues_Decimal_Coef.f, Pfix.govalues_Decimal_Scale.f, Option.bind_some]
  rw [show wrap64 (s : Int) = s by unfold wrap64; omega]

theorem New_ok (v : Int) (s : Nat) (w : World) (hs : s ≤ 19) (h1 : -9223372036854775808 ≤ v) (h2 : v ≤ 9223372036854775807) :
    Calls Tryd.prog 44 #[.int .i64 v, .int .i64 s] w fun e w' => e = .returned (.tuple #[.agg #[.bool (decide (v < 0)), .int .i8 s, .int .u64 v.natAbs], .nilIface]) ∧ Below w.heap.size w w' := by
  by_cases h0 : 0 ≤ v
  · have HS := Lib.hid (newSafe_ok false v.natAbs s)
    rw [show (false && decide (0 < v.natAbs)) = decide (v < 0) by simp; omega] at HS
    obtain ⟨n, rfl⟩ := Int.eq_ofNat_of_zero_le h0
    rw [show ((n : Int).natAbs) = n by omega] at HS ⊢
    have hd : decide ((n : Int) < 0) = false := decide_eq_false (by omega)
    rw [hd] at HS ⊢
    clear h0 hd
    go_enter Tryd.func44, Tryd.ntmps44
    go_wp2_with (first | (go_at_call 80; refine (HS.out _ hs (by omega)).mono ?_; rintro e w1 ⟨rfl, hb⟩; obtain ⟨H3, hb1⟩ := made3 hb; obtain ⟨c0, c1, c2, f0, f1, f2, hz⟩ := H3; have HB := Lib.hid hb1; clear hb hb1))
    exact bodyPost_ret (v := .tuple #[.agg #[.bool false, .int .i8 s, .int .u64 n], .nilIface]) (by simp [results, Tryd.results44, go_sem, c0, c1, c2, f0, f1, f2, hz]) rfl ⟨rfl, ((HB.out.setCell (Nat.le_refl _) _).setCell (Nat.le_refl _) _).setCell (Nat.le_refl _) _⟩
  · have HS := Lib.hid (newSafe_ok true v.natAbs s)
    have hd : decide (v < 0) = true := decide_eq_true (by omega)
    rw [show (true && decide (0 < v.natAbs)) = true by simp; omega] at HS
    rw [hd]
    by_cases hm : v = -9223372036854775808
    · subst hm
      rw [show ((-9223372036854775808 : Int).natAbs) = 9223372036854775808 from rfl] at HS ⊢
      rw [show (((9223372036854775808 : Nat)) : Int) = (9223372036854775808 : Int) from rfl] at HS ⊢
      clear h0 hd
      go_enter Tryd.func44, Tryd.ntmps44
      go_wp2_with (first | (go_at_call 80; refine (HS.out _ hs (by omega)).mono ?_; rintro e w1 ⟨rfl, hb⟩; obtain ⟨H3, hb1⟩ := made3 hb; obtain ⟨c0, c1, c2, f0, f1, f2, hz⟩ := H3; have HB := Lib.hid hb1; clear hb hb1))
      exact bodyPost_ret (v := .tuple #[.agg #[.bool true, .int .i8 s, .int .u64 9223372036854775808], .nilIface]) (by simp [results, Tryd.results44, go_sem, c0, c1, c2, f0, f1, f2, hz]) rfl ⟨rfl, ((HB.out.setCell (Nat.le_refl _) _).setCell (Nat.le_refl _) _).setCell (Nat.le_refl _) _⟩
    · have hmb : (v == -9223372036854775808) = false := beq_eq_false_iff_ne.2 hm
      have hvb : IntKind.u64.wrap (-v) = (v.natAbs : Nat) := by rw [IntWalk.u64_in _ (by omega)]; omega
      have hg : decide (0 ≤ v) = false := decide_eq_false h0
      have hv1 : v ≤ -1 := by omega
      have hv2 : -9223372036854775807 ≤ v := by omega
      have HV := Lib.hid (show -v = ((v.natAbs : Nat) : Int) by omega)
      have hn : v.natAbs ≤ 9999999999999999999 := by omega
      generalize v.natAbs = n at HS hvb HV hn ⊢
      clear h0 hd hm h1 hvb
      go_enter Tryd.func44, Tryd.ntmps44
      go_wp2_with fail
      rw [HV.out]
      refine (HS.out _ hs hn).mono ?_
      rintro e w1 ⟨rfl, hb⟩
      obtain ⟨⟨c0, c1, c2, f0, f1, f2, hz⟩, hb1⟩ := made3 hb
      have HB := Lib.hid hb1
      clear hb hb1
      go_wp2
      exact bodyPost_ret (v := .tuple #[.agg #[.bool true, .int .i8 s, .int .u64 n], .nilIface]) (by simp [results, Tryd.results44, go_sem, c0, c1, c2, f0, f1, f2, hz]) rfl ⟨rfl, ((HB.out.setCell (Nat.le_refl _) _).setCell (Nat.le_refl _) _).setCell (Nat.le_refl _) _⟩

theorem New_bad (v s : Int) (w : World) (hs : s < 0 ∨ 19 < s) (h1 : -9223372036854775808 ≤ v) (h2 : v ≤ 9223372036854775807) (he : ErrAt w) :
    Calls Tryd.prog 44 #[.int .i64 v, .int .i64 s] w fun e w' => (∃ t u, e = .returned (.tuple #[.agg #[.bool false, .int .i8 0, .int .u64 0], .iface t u])) ∧ Below w.heap.size w w' := by
  have HE : Hid (∀ o, ErrAt (w.alloc o)) := fun o => he.below ((Below.refl w.heap.size w).alloc (Nat.le_refl _) o)
  have HS := Lib.hid (fun (neg : Bool) (c : Nat) (W : World) (hW : ErrAt W) => newSafe_range neg c s W hs hW)
  clear he hs
  by_cases h0 : 0 ≤ v
  · obtain ⟨n, rfl⟩ := Int.eq_ofNat_of_zero_le h0
    have hg : decide ((0 : Int) ≤ n) = true := decide_eq_true h0
    clear h0
    go_enter Tryd.func44, Tryd.ntmps44
    go_wp2_with (first | (go_at_call 80; refine (HS.out _ n _ (HE.out _)).mono ?_; rintro e w1 ⟨⟨t, u, rfl⟩, hb⟩; obtain ⟨H3, hb1⟩ := made3 hb; obtain ⟨c0, c1, c2, f0, f1, f2, hz⟩ := H3; have HB := Lib.hid hb1; clear hb hb1))
    exact bodyPost_ret (v := .tuple #[.agg #[.bool false, .int .i8 0, .int .u64 0], .iface t u]) (by simp [results, Tryd.results44, go_sem, c0, c1, c2, f0, f1, f2, hz]) rfl ⟨⟨t, u, rfl⟩, ((HB.out.setCell (Nat.le_refl _) _).setCell (Nat.le_refl _) _).setCell (Nat.le_refl _) _⟩
  · by_cases hm : v = -9223372036854775808
    · subst hm
      have HS2 : Hid (∀ (W : World) (hW : ErrAt W), Calls Tryd.prog 80 #[.bool true, .int .u64 9223372036854775808, .int .i64 s] W fun e w' => (∃ t v, e = .returned (.tuple #[.agg #[.bool false, .int .i8 0, .int .u64 0], .iface t v])) ∧ Below W.heap.size W w') := fun W hW => HS.out true 9223372036854775808 W hW
      clear h0 HS
      go_enter Tryd.func44, Tryd.ntmps44
      go_wp2_with (first | (go_at_call 80; refine (HS2.out _ (HE.out _)).mono ?_; rintro e w1 ⟨⟨t, u, rfl⟩, hb⟩; obtain ⟨H3, hb1⟩ := made3 hb; obtain ⟨c0, c1, c2, f0, f1, f2, hz⟩ := H3; have HB := Lib.hid hb1; clear hb hb1))
      exact bodyPost_ret (v := .tuple #[.agg #[.bool false, .int .i8 0, .int .u64 0], .iface t u]) (by simp [results, Tryd.results44, go_sem, c0, c1, c2, f0, f1, f2, hz]) rfl ⟨⟨t, u, rfl⟩, ((HB.out.setCell (Nat.le_refl _) _).setCell (Nat.le_refl _) _).setCell (Nat.le_refl _) _⟩
    · have hmb : (v == -9223372036854775808) = false := beq_eq_false_iff_ne.2 hm
      have hg : decide (0 ≤ v) = false := decide_eq_false h0
      have hv1 : v ≤ -1 := by omega
      have hv2 : -9223372036854775807 ≤ v := by omega
      have HV := Lib.hid (show -v = ((v.natAbs : Nat) : Int) by omega)
      generalize v.natAbs = n at HV
      clear h0 hm h1
      go_enter Tryd.func44, Tryd.ntmps44
      go_wp2_with fail
      rw [HV.out]
      refine (HS.out _ n _ (HE.out _)).mono ?_
      rintro e w1 ⟨⟨t, u, rfl⟩, hb⟩
      obtain ⟨⟨c0, c1, c2, f0, f1, f2, hz⟩, hb1⟩ := made3 hb
      have HB := Lib.hid hb1
      clear hb hb1
      go_wp2
      exact bodyPost_ret (v := .tuple #[.agg #[.bool false, .int .i8 0, .int .u64 0], .iface t u]) (by simp [results, Tryd.results44, go_sem, c0, c1, c2, f0, f1, f2, hz]) rfl ⟨⟨t, u, rfl⟩, ((HB.out.setCell (Nat.le_refl _) _).setCell (Nat.le_refl _) _).setCell (Nat.le_refl _) _⟩

theorem fixNew_ok (v : Int) (s : Nat) (w : World) (hs : s ≤ 19) (h1 : -9223372036854775808 ≤ v) (h2 : v ≤ 9223372036854775807) :
    Calls Tryd.prog 17 #[.int .i64 v, .int .i64 s] w fun e w' => e = .returned (.tuple #[.agg #[.bool (decide (v < 0)), .int .u64 v.natAbs, .int .i64 s], .int .i64 0]) ∧ Below w.heap.size w w' := by
  have HS := Lib.hid (fun W => New_ok v s W hs h1 h2)
  have HF := Lib.hid (fun W => fix_any (decide (v < 0)) s v.natAbs W hs)
  generalize decide (v < 0) = b at HS HF ⊢
  generalize v.natAbs = n at HS HF ⊢
  go_enter Tryd.func17, Tryd.ntmps17
  go_wp2_with (first | (go_at_call 44; refine (HS.out _).mono ?_; rintro e w1 ⟨rfl, hb⟩; obtain ⟨H3, hb1⟩ := made3 hb; have HB := Lib.hid hb1; clear hb hb1) | (go_at_call 45; refine (HF.out _).mono ?_; rintro e w2 ⟨rfl, hb⟩; have hb2 := below_one _ hb; obtain ⟨c0, c1, c2, f0, f1, f2, hz⟩ := H3.below hb2; have HB2 := Lib.hid (below_by HB.out hb2); clear hb hb2))
  exact bodyPost_ret (v := .tuple #[.agg #[.bool b, .int .u64 n, .int .i64 s], .int .i64 0]) (by simp [results, Tryd.results17, go_sem, c0, c1, c2, f0, f1, f2, hz]) rfl ⟨rfl, ((HB2.out.setCell (Nat.le_refl _) _).setCell (Nat.le_refl _) _).setCell (Nat.le_refl _) _⟩

theorem fixNew_bad (v s : Int) (w : World) (hs : s < 0 ∨ 19 < s) (h1 : -9223372036854775808 ≤ v) (h2 : v ≤ 9223372036854775807) (he : ErrAt w) :
    Calls Tryd.prog 17 #[.int .i64 v, .int .i64 s] w fun e w' => e = .returned (.tuple #[.agg #[.bool false, .int .u64 0, .int .i64 0], .int .i64 1]) ∧ Below w.heap.size w w' := by
  have HS : Hid (∀ o, Calls Tryd.prog 44 #[.int .i64 v, .int .i64 s] (w.alloc o) fun e w' => (∃ t u, e = .returned (.tuple #[.agg #[.bool false, .int .i8 0, .int .u64 0], .iface t u])) ∧ Below (w.alloc o).heap.size (w.alloc o) w') := fun o => New_bad v s _ hs h1 h2 (he.below ((Below.refl w.heap.size w).alloc (Nat.le_refl _) o))
  clear hs he
  go_enter Tryd.func17, Tryd.ntmps17
  go_wp2_with (first | (go_at_call 44; refine (HS.out _).mono ?_; rintro e w1 ⟨⟨t, u, rfl⟩, hb⟩; obtain ⟨H3, hb1⟩ := made3 hb; obtain ⟨c0, c1, c2, f0, f1, f2, hz⟩ := H3; have HB := Lib.hid hb1; clear hb hb1))
  exact bodyPost_ret (v := .tuple #[.agg #[.bool false, .int .u64 0, .int .i64 0], .int .i64 1]) (by simp [results, Tryd.results17, go_sem, c0, c1, c2, f0, f1, f2, hz]) rfl ⟨rfl, below_at (((HB.out.setCell (Nat.le_refl _) _).setCell (Nat.le_refl _) _).setCell (Nat.le_refl _) _) _⟩
end Go.Proofs.YthkmgjkajllemaaDoor.Make

/- Whole numbers, fractions and decimal numbers of the reference, as contracts on numbers. -/
namespace Go.Proofs.YthkmgjkajllemaaDoor.Spec
open Go.RowKit Go.Proofs.YthkmgjkajllemaaDoorW.PrintWords Go.Proofs.YthkmgjkajllemaaDoor.Num Go.Proofs.YthkmgjkajllemaaDoor.Str Go.Proofs.YthkmgjkajllemaaDoor.Nats Go.Proofs.YthkmgjkajllemaaDoor.Val Go.Proofs.YthkmgjkajllemaaDoor.Arith Go.Proofs.YthkmgjkajllemaaDoor.NatOps Go.Proofs.YthkmgjkajllemaaDoor.Make
set_option linter.unusedVariables false
set_option linter.unusedSimpArgs false

theorem limbs_len_pos (n : Nat) : 0 < (limbs n).length ↔ 0 < n := by
  have := rest_pos n 0
  rw [rest_zero] at this
  exact this

/-- wholeOf: a sign counts where the number is not 0. -/
theorem wholeMk_any (b : Bool) (u : Value) (n : Nat) (w : World) (hu : IsNat w u n) :
    Calls Tryd.prog 62 #[.bool b, u] w fun e w' => e = .returned (.agg #[.bool (b && decide (0 < n)), u]) ∧ Below w.heap.size w w' := by
  have hp := limbs_len_pos n
  obtain ⟨A, c, rfl, hc, hr⟩ := hu
  clear hc hr
  by_cases hn : 0 < n
  · have hl : 0 < (limbs n).length := hp.2 hn
    rw [show (b && decide (0 < n)) = b by simp [hn]]
    clear hp hn
    cases b
    · go_enter Tryd.func62, Tryd.ntmps62
      go_wp2
      exact bodyPost_ret (v := .agg #[.bool false, .slice A (limbs n).length c]) (by simp [results, Tryd.results62, go_sem]) rfl ⟨rfl, (Below.refl _ _).alloc (Nat.le_refl _) _⟩
    · go_enter Tryd.func62, Tryd.ntmps62
      go_wp2
      exact bodyPost_ret (v := .agg #[.bool true, .slice A (limbs n).length c]) (by simp [results, Tryd.results62, go_sem]) rfl ⟨rfl, (Below.refl _ _).alloc (Nat.le_refl _) _⟩
  · obtain rfl : n = 0 := by omega
    rw [show (b && decide (0 < 0)) = false by simp, show (limbs 0).length = 0 by rw [limbs_zero]; rfl]
    clear hp hn
    cases b
    · go_enter Tryd.func62, Tryd.ntmps62
      go_wp2
      exact bodyPost_ret (v := .agg #[.bool false, .slice A 0 c]) (by simp [results, Tryd.results62, go_sem]) rfl ⟨rfl, (Below.refl _ _).alloc (Nat.le_refl _) _⟩
    · go_enter Tryd.func62, Tryd.ntmps62
      go_wp2
      exact bodyPost_ret (v := .agg #[.bool false, .slice A 0 c]) (by simp [results, Tryd.results62, go_sem]) rfl ⟨rfl, (Below.refl _ _).alloc (Nat.le_refl _) _⟩

/-- one. -/
theorem one_any (w : World) :
    Calls Tryd.prog 55 #[] w fun e w' => ∃ r, e = .returned r ∧ IsNew w' w.heap.size r 1 ∧ Below w.heap.size w w' := by
  have HB := Aside0.mk (Below.refl w.heap.size w)
  go_enter Tryd.func55, Tryd.ntmps55
  go_wp2_with (first | ((with_reducible refine gate_dst (N := 1) rfl ?_); go_must (refine Kd.R_lit (w0 := w) (Kd.int .u32) w.heap.size 69 rfl (N := 1) rfl (xs := ([1] : List Int)) (inner := [.int .u32 1]) (ok := fun _ => True) (okp := fun _ => True) (by first | (go_simp; done) | (go_simp; rfl)) (Reps.one rfl (Reps.none _ _)) (fun _ hk => hk) trivial HB.out HB.out.size (by simp) ?_); intro v5 w2 ho hb hg hn; have HO := Aside0.mk ho; have HB2 := Aside0.mk hb; clear ho hb hg hn))
  go_ret
  exact ⟨_, rfl, by unfold IsNew; rw [limbs_one 1 (by omega) (by omega)]; exact V_of_R HO.out, HB2.out⟩

/-- Cells of memory. -/
def Cells (W : World) : List (Nat × Nat × Value) → Prop
  | [] => True
  | (b, o, v) :: l => W.cell? ⟨b, o, none⟩ = some v ∧ Cells W l
theorem Cells.call {W W' : World} (hb : Below W.heap.size W W') : ∀ {l : List (Nat × Nat × Value)}, Cells W l → Cells W' l
  | [], _ => trivial
  | (b, o, v) :: l, h => ⟨pw_cell_below hb h.1, Cells.call hb h.2⟩
theorem old_at {w : World} {b i : Nat} {v : Value} (h : w.cell? ⟨b, i, none⟩ = some v) (o : Obj) : (w.alloc o).cell? ⟨b, i, none⟩ = some v :=
  (((Below.refl w.heap.size w).alloc (Nat.le_refl _) o).cell (p := ⟨b, i, none⟩) (World.block_lt_of_cell? w _ h)).trans h
theorem Cells.alloc {W : World} (o : Obj) : ∀ {l : List (Nat × Nat × Value)}, Cells W l → Cells (W.alloc o) l
  | [], _ => trivial
  | (b, i, v) :: l, h => ⟨old_at h.1 o, Cells.alloc o h.2⟩
theorem Cells.nil (W : World) : Cells W [] := trivial
theorem Cells.box2 {W : World} {l : List (Nat × Nat × Value)} {b : Nat} (h : Cells W l) (hb : W.heap.size = b) (u v : Value) (T : TypeId) : Cells (W.alloc (.cells #[u, v] T)) ((b, 0, u) :: (b, 1, v) :: l) := by
  subst hb
  exact ⟨by simp, by simp, h.alloc _⟩
theorem Cells.box3 {W : World} {l : List (Nat × Nat × Value)} {b : Nat} (h : Cells W l) (hb : W.heap.size = b) (u v x : Value) (T : TypeId) : Cells (W.alloc (.cells #[u, v, x] T)) ((b, 0, u) :: (b, 1, v) :: (b, 2, x) :: l) := by
  subst hb
  exact ⟨by simp, by simp, by simp, h.alloc _⟩
theorem free_box {W : World} {b : Nat} (hb : W.heap.size = b) (cs : Array Value) (T : TypeId) (o : Nat) : (W.alloc (.cells cs T)).frozen? ⟨b, o, none⟩ = false := by
  subst hb
  simp
/-- What is held in the middle of a function: cells, the result's block g (of k cells), what was there before. -/
structure St (w W : World) (l : List (Nat × Nat × Value)) (g k : Nat) : Prop where
  cells : Cells W l
  free : ∀ o, o < k → W.frozen? ⟨g, o, none⟩ = false
  lt : g < W.heap.size
  below : Below w.heap.size w W
theorem St.call {w W W' : World} {l : List (Nat × Nat × Value)} {g k : Nat} (h : St w W l g k) (hb : Below W.heap.size W W') : St w W' l g k :=
  ⟨h.cells.call hb, fun o ho => (hb.frozen (p := ⟨g, o, none⟩) h.lt).trans (h.free o ho), Nat.lt_of_lt_of_le h.lt hb.size, below_by h.below hb⟩

set_option maxHeartbeats 2000000 in
set_option maxRecDepth 100000 in
/-- The product of two whole numbers. -/
theorem wholeMul_any (x y : Bool) (u v : Value) (m n : Nat) (w : World) (hu : IsNat w u m) (hv : IsNat w v n) (hm : (limbs m).length < 1000000) (hn : (limbs n).length < 1000000) :
    Calls Tryd.prog 70 #[.agg #[.bool x, u], .agg #[.bool y, v]] w fun e w' => ∃ r, e = .returned (.agg #[.bool ((x != y) && decide (0 < m * n)), r]) ∧ IsNew w' w.heap.size r (m * n) ∧ Below w.heap.size w w' := by
  have HM := Lib.hid (fun W hu hv => natMul_any u v m n W hu hv hm hn)
  have HW := Lib.hid (fun b r W hr => wholeMk_any b r (m * n) W hr)
  have HU := Lib.hid (fun (W : World) (hb : Below w.heap.size w W) => hu.below hb)
  have HV := Lib.hid (fun (W : World) (hb : Below w.heap.size w W) => hv.below hb)
  obtain ⟨A, c, rfl, hc, hr⟩ := hu
  obtain ⟨A', c', rfl, hc', hr'⟩ := hv
  have HS : Hid (St w (((w.alloc (.cells #[.bool x, .slice A (limbs m).length c] 37)).alloc (.cells #[.bool y, .slice A' (limbs n).length c'] 37)).alloc (.cells #[.bool false, .slice none 0 0] 37))
      [(w.heap.size + 1 + 1, 0, .bool false), (w.heap.size + 1 + 1, 1, .slice none 0 0), (w.heap.size + 1, 0, .bool y), (w.heap.size + 1, 1, .slice A' (limbs n).length c'), (w.heap.size, 0, .bool x), (w.heap.size, 1, .slice A (limbs m).length c)] (w.heap.size + 1 + 1) 2) :=
    ⟨Cells.box2 (Cells.box2 (Cells.box2 (Cells.nil _) rfl _ _ _) (by simp) _ _ _) (by simp) _ _ _, fun o _ => free_box (by simp) _ _ _, by simp, (((Below.refl _ _).alloc (Nat.le_refl _) _).alloc (by simp) _).alloc (by simp; omega) _⟩
  have hne1 : w.heap.size + 1 + 1 ≠ w.heap.size := by omega
  have hne2 : w.heap.size + 1 + 1 ≠ w.heap.size + 1 := by omega
  clear hr hr' hc hc' hm hn
  generalize decide (0 < m * n) = z at HW ⊢
  generalize m * n = k at HM HW ⊢
  go_enter Tryd.func70, Tryd.ntmps70
  go_wp2
  obtain ⟨W, hW⟩ : ∃ W, ((w.alloc (.cells #[.bool x, .slice A (limbs m).length c] 37)).alloc (.cells #[.bool y, .slice A' (limbs n).length c'] 37)).alloc (.cells #[.bool false, .slice none 0 0] 37) = W := ⟨_, rfl⟩
  rw [hW] at HS ⊢
  clear hW
  have HS1 := Lib.hid (HS.out.call (below_drew (Below.refl _ _)))
  clear HS
  go_region_held3 (fun W' => W'.cell? ⟨w.heap.size + 1, 0, none⟩ = some (.bool y) ∧ W'.cell? ⟨w.heap.size + 1, 1, none⟩ = some (.slice A' (limbs n).length c') ∧ W'.cell? ⟨w.heap.size, 0, none⟩ = some (.bool x) ∧ W'.cell? ⟨w.heap.size, 1, none⟩ = some (.slice A (limbs m).length c))
    (first | exact (by have h := HS3.out.cells.2.2; exact ⟨h.1, h.2.1, h.2.2.1, h.2.2.2.1⟩) | exact (by have h := HS2.out.cells.2.2; exact ⟨h.1, h.2.1, h.2.2.1, h.2.2.2.1⟩) | exact (by have h := HS1.out.cells.2.2; exact ⟨h.1, h.2.1, h.2.2.1, h.2.2.2.1⟩) | go_keep)
    (first | (go_at_call 56; refine (HM.out _ (HU.out _ HS1.out.below) (HV.out _ HS1.out.below)).mono ?_; rintro e w2 ⟨r, rfl, hn, hb⟩; obtain ⟨A2, c2, rfl⟩ := hn.slice; have HS2 := Lib.hid (HS1.out.call hb); have HG2 := Lib.hid hn; clear hn hb) | (go_at_call 62; refine (HW.out _ _ _ HG2.out.isNat).mono ?_; rintro e w3 ⟨rfl, hb⟩; have HS3 := Lib.hid (HS2.out.call hb); obtain ⟨d0, d1, b0, b1, a0, a1, -⟩ := HS3.out.cells; have f0 := HS3.out.free 0 (by omega); have f1 := HS3.out.free 1 (by omega); have hz := HS3.out.lt; have HG3 := Lib.hid (HG2.out.below hb); clear hb))
  all_goals (go_wp2; exact bodyPost_ret (v := .agg #[.bool (!x == y && z), .slice A2 (limbs k).length c2]) (by simp [results, Tryd.results70, go_sem, d0, d1, f0, f1, hz]) rfl ⟨_, rfl, ((HG3.out.set (by have := HS1.out.lt; exact this) _).set (by have := HS1.out.lt; exact this) _).lower HS1.out.below.size, (HS3.out.below.setCell (by show w.heap.size ≤ w.heap.size + 1 + 1; omega) _).setCell (by show w.heap.size ≤ w.heap.size + 1 + 1; omega) _⟩)
end Go.Proofs.YthkmgjkajllemaaDoor.Spec
