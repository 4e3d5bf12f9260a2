/- Lemmas and contracts of functions for the theorem of YthkmgjkajllemaaDoorCiF. -/
import Derived.WalkKit
import Derived.Laws.BytesArg
import Derived.Test.YthkmgjkajllemaaDoorPNatMulx1
import Derived.Test.YthkmgjkajllemaaDoorPPow10x1
import Derived.Test.YthkmgjkajllemaaDoorPNatCmpx1
import Derived.Test.YthkmgjkajllemaaDoorPnatShortx1
import Derived.Test.YthkmgjkajllemaaDoorPNatFromx
import Derived.Outline
import Derived.RegionTactic
import Derived.WalkSpells
import Derived.Test.YthkmgjkajllemaaDoorPnatGuessx1
import Derived.Lib.Hide

/- Plain facts on numbers, their limbs of nine digits and their decimal digits; no program is in sight. -/
namespace Go.Proofs.YthkmgjkajllemaaDoor.Num
open Go.RowKit

/-- The limbs of a number, nine digits each, the lowest ones first. -/
def limbs (n : Nat) : List Int := if n = 0 then [] else ((n % 1000000000 : Nat) : Int) :: limbs (n / 1000000000)
termination_by n
decreasing_by omega

theorem limbs_zero : limbs 0 = [] := by unfold limbs; rfl
theorem limbs_pos {n : Nat} (h : 0 < n) : limbs n = ((n % 1000000000 : Nat) : Int) :: limbs (n / 1000000000) := by
  rw [limbs, if_neg (by omega)]
theorem limbs_nil {n : Nat} (h : limbs n = []) : n = 0 := by
  rcases Nat.eq_zero_or_pos n with h0 | h0
  · exact h0
  · rw [limbs_pos h0] at h; simp at h

/-- The decimal digits of a number as bytes, the lowest ones first. -/
def decs (n : Nat) : List Int := if n = 0 then [] else ((48 + n % 10 : Nat) : Int) :: decs (n / 10)
termination_by n
decreasing_by omega

theorem decs_zero : decs 0 = [] := by unfold decs; rfl
theorem decs_pos {n : Nat} (h : 0 < n) : decs n = ((48 + n % 10 : Nat) : Int) :: decs (n / 10) := by
  rw [decs, if_neg (by omega)]

/-- The lowest m decimal digits. -/
def lows : Nat → Nat → List Int
  | 0, _ => []
  | m + 1, n => ((48 + n % 10 : Nat) : Int) :: lows m (n / 10)

theorem lows_split (m : Nat) : ∀ (n : Nat), n < 10 ^ m → 0 < m → ∀ h : Nat, 0 < h → decs (h * 10 ^ m + n) = lows m n ++ decs h := by
  induction m with
  | zero => intro n _ h0; omega
  | succ m ih =>
    intro n hn _ h hh
    have hp : 0 < 10 ^ m := Nat.pow_pos (by decide)
    have e : h * 10 ^ (m + 1) + n = 10 * (h * 10 ^ m) + n := by rw [Nat.pow_succ, Nat.mul_comm (10 ^ m) 10, ← Nat.mul_assoc, Nat.mul_comm h 10, Nat.mul_assoc]
    have hhp : 0 < h * 10 ^ m := Nat.mul_pos hh hp
    rw [decs_pos (by rw [e]; omega), lows]
    have e1 : (h * 10 ^ (m + 1) + n) % 10 = n % 10 := by rw [e]; omega
    have e2 : (h * 10 ^ (m + 1) + n) / 10 = h * 10 ^ m + n / 10 := by rw [e]; omega
    rw [e1, e2]
    rcases Nat.eq_zero_or_pos m with h0 | h0
    · subst h0
      have : n / 10 = 0 := by simp at hn; omega
      simp [this, lows]
    · rw [ih (n / 10) (by rw [Nat.pow_succ] at hn; omega) h0 h hh]
      rfl

theorem decs_limb (n : Nat) (h : 0 < n / 1000000000) : decs n = lows 9 (n % 1000000000) ++ decs (n / 1000000000) := by
  have := lows_split 9 (n % 1000000000) (by omega) (by omega) (n / 1000000000) h
  rw [← this]
  congr 1
  omega

theorem decs_length (m : Nat) : ∀ n, n < 10 ^ m → (decs n).length ≤ m := by
  induction m with
  | zero =>
    intro n hn
    have : n = 0 := by simpa using hn
    subst this; simp [decs_zero]
  | succ m ih =>
    intro n hn
    rcases Nat.eq_zero_or_pos n with h0 | h0
    · subst h0; simp [decs_zero]
    · rw [decs_pos h0]
      have := ih (n / 10) (by rw [Nat.pow_succ] at hn; omega)
      simp; omega
theorem lows_length (m : Nat) : ∀ n, (lows m n).length = m := by
  induction m with
  | zero => intro n; rfl
  | succ m ih => intro n; simp [lows, ih]

theorem limbs_length (m : Nat) : ∀ n, n < 1000000000 ^ m → (limbs n).length ≤ m := by
  induction m with
  | zero =>
    intro n hn
    have : n = 0 := by simpa using hn
    subst this; simp [limbs_zero]
  | succ m ih =>
    intro n hn
    rcases Nat.eq_zero_or_pos n with h0 | h0
    · subst h0; simp [limbs_zero]
    · rw [limbs_pos h0]
      have := ih (n / 1000000000) (by rw [Nat.pow_succ] at hn; exact Nat.div_lt_of_lt_mul (by rw [Nat.mul_comm]; exact hn))
      simp; omega

/-- What is left of a number behind its i lowest limbs. -/
def rest (n i : Nat) : Nat := n / 1000000000 ^ i
theorem rest_zero (n : Nat) : rest n 0 = n := by unfold rest; simp
theorem rest_succ (n i : Nat) : rest n (i + 1) = rest n i / 1000000000 := by unfold rest; rw [Nat.pow_succ, Nat.div_div_eq_div_mul]
theorem limbs_drop (n : Nat) : ∀ i, (limbs n).drop i = limbs (rest n i) := by
  intro i
  induction i with
  | zero => rw [rest_zero]; rfl
  | succ i ih =>
    rw [rest_succ]
    have e : (limbs n).drop (i + 1) = ((limbs n).drop i).tail := by simp
    rw [e, ih]
    rcases Nat.eq_zero_or_pos (rest n i) with h0 | h0
    · rw [h0]; simp [limbs_zero]
    · rw [limbs_pos h0]; rfl
theorem limbs_at (n i : Nat) (h : i < (limbs n).length) : (limbs n).getD i 0 = ((rest n i % 1000000000 : Nat) : Int) ∧ 0 < rest n i := by
  have hd := limbs_drop n i
  have hpos : 0 < rest n i := by
    rcases Nat.eq_zero_or_pos (rest n i) with h0 | h0
    · rw [h0, limbs_zero] at hd
      have := congrArg List.length hd
      simp at this
      omega
    · exact h0
  refine ⟨?_, hpos⟩
  rw [limbs_pos hpos] at hd
  have := congrArg (fun t => t[0]?) hd
  simp [List.getElem?_drop] at this
  simp [this]
theorem rest_pos (n i : Nat) : i < (limbs n).length ↔ 0 < rest n i := by
  refine ⟨fun h => (limbs_at n i h).2, fun h => ?_⟩
  have hd := congrArg List.length (limbs_drop n i)
  rw [limbs_pos h] at hd
  simp at hd
  omega

/-- What is still to be written of the limb x at its digit j, and of the limbs q above it. -/
def remd (j x q : Nat) : List Int := if 0 < q then lows (9 - j) x ++ decs q else decs x
theorem remd_step (j x q : Nat) (hj : j < 9) (h : 0 < x ∨ 0 < q) : remd j x q = ((48 + x % 10 : Nat) : Int) :: remd (j + 1) (x / 10) q := by
  unfold remd
  by_cases hq : 0 < q
  · rw [if_pos hq, if_pos hq, show 9 - j = (9 - (j + 1)) + 1 by omega, lows]
    rfl
  · rw [if_neg hq, if_neg hq, decs_pos (by omega)]
theorem remd_end9 (x q : Nat) (hx : 0 < q ∨ x = 0) : remd 9 x q = decs q := by
  unfold remd
  by_cases hq : 0 < q
  · rw [if_pos hq]; rfl
  · rw [if_neg hq, show q = 0 by omega, show x = 0 by omega]
theorem remd_end0 (j : Nat) : remd j 0 0 = decs 0 := by unfold remd; rw [if_neg (by omega)]
theorem remd_start (n : Nat) : decs n = remd 0 (n % 1000000000) (n / 1000000000) := by
  unfold remd
  by_cases hq : 0 < n / 1000000000
  · rw [if_pos hq, decs_limb n hq]
  · rw [if_neg hq, show n % 1000000000 = n by omega]

theorem decs_bytes (n : Nat) : ∀ x ∈ decs n, 48 ≤ x ∧ x ≤ 57 := by
  induction n using Nat.strongRecOn with
  | ind n ih =>
    rcases Nat.eq_zero_or_pos n with h0 | h0
    · subst h0; simp [decs_zero]
    · rw [decs_pos h0]
      intro x hx
      rcases List.mem_cons.1 hx with rfl | hx
      · omega
      · exact ih _ (by omega) x hx
theorem decs_at (n : Nat) : ∀ z, z < (decs n).length → (decs n).getD z 0 = ((48 + n / 10 ^ z % 10 : Nat) : Int) := by
  induction n using Nat.strongRecOn with
  | ind n ih =>
    intro z hz
    rcases Nat.eq_zero_or_pos n with h0 | h0
    · subst h0; simp [decs_zero] at hz
    · rw [decs_pos h0] at hz ⊢
      cases z with
      | zero => simp
      | succ z =>
        have := ih (n / 10) (by omega) z (by simpa using hz)
        rw [List.getD_cons_succ, this, Nat.pow_succ, Nat.mul_comm, Nat.div_div_eq_div_mul]

/-- The text of a number. -/
def text (n : Nat) : ByteArray := if n = 0 then ⟨#[48]⟩ else strOfNums (decs n).reverse
theorem text_size (n : Nat) (h : 0 < n) : (text n).size = (decs n).length := by
  unfold text
  rw [if_neg (by omega), strOfNums_size, List.length_reverse]

/-- Two lists turned round, from both ends to the middle. -/
structure Turned (xs ys : List Int) (i : Nat) : Prop where
  len : ys.length = xs.length
  out : ∀ k, k < xs.length → (k < i ∨ xs.length - 1 - i < k) → ys.getD k 0 = xs.getD (xs.length - 1 - k) 0
  mid : ∀ k, k < xs.length → i ≤ k → k ≤ xs.length - 1 - i → ys.getD k 0 = xs.getD k 0
theorem Turned.start (xs : List Int) : Turned xs xs 0 := ⟨rfl, fun k hk h => by omega, fun _ _ _ _ => rfl⟩
theorem getD_set (ys : List Int) (i k : Nat) (v : Int) (h : i < ys.length) : (ys.set i v).getD k 0 = if k = i then v else ys.getD k 0 := by
  rw [List.getD_eq_getElem?_getD, List.getD_eq_getElem?_getD, List.getElem?_set]
  by_cases e : i = k
  · subst e; simp [h]
  · rw [if_neg e, if_neg (by omega)]
theorem Turned.step {xs ys : List Int} {i : Nat} (h : Turned xs ys i) (hi : i < xs.length - 1 - i) :
    Turned xs ((ys.set i (ys.getD (xs.length - 1 - i) 0)).set (xs.length - 1 - i) (ys.getD i 0)) (i + 1) := by
  have hl := h.len
  have a := h.mid i (by omega) (by omega) (by omega)
  have b := h.mid (xs.length - 1 - i) (by omega) (by omega) (by omega)
  refine ⟨by simp [hl], fun k hk hc => ?_, fun k hk h1 h2 => ?_⟩
  · rw [getD_set _ _ _ _ (by simp; omega), getD_set _ _ _ _ (by omega)]
    by_cases e1 : k = xs.length - 1 - i
    · subst e1
      rw [if_pos rfl, a, show xs.length - 1 - (xs.length - 1 - i) = i by omega]
    · rw [if_neg e1]
      by_cases e2 : k = i
      · subst e2; rw [if_pos rfl, b]
      · rw [if_neg e2]
        exact h.out k hk (by omega)
  · rw [getD_set _ _ _ _ (by simp; omega), getD_set _ _ _ _ (by omega), if_neg (by omega), if_neg (by omega)]
    exact h.mid k hk (by omega) (by omega)
theorem Turned.done {xs ys : List Int} {i : Nat} (h : Turned xs ys i) (hi : ¬ i < xs.length - 1 - i) : ys = xs.reverse := by
  apply List.ext_getElem?
  intro k
  by_cases hk : k < xs.length
  · have hv : ys.getD k 0 = xs.getD (xs.length - 1 - k) 0 := by
      by_cases hc : k < i ∨ xs.length - 1 - i < k
      · exact h.out k hk hc
      · have e := h.mid k hk (by omega) (by omega)
        rw [e, show xs.length - 1 - k = k by omega]
    rw [List.getElem?_reverse hk]
    have hl := h.len
    rw [List.getD_eq_getElem?_getD, List.getD_eq_getElem?_getD, List.getElem?_eq_getElem (by omega), List.getElem?_eq_getElem (by omega)] at hv
    rw [List.getElem?_eq_getElem (by omega), List.getElem?_eq_getElem (by omega)]
    simpa using hv
  · rw [List.getElem?_eq_none (by have := h.len; omega), List.getElem?_eq_none (by simp; omega)]
end Go.Proofs.YthkmgjkajllemaaDoor.Num

/- What lists of limbs are worth, and how that turns when one limb is set; plain facts, no program is in sight. -/
namespace Go.Proofs.YthkmgjkajllemaaDoor.Val
open Go.RowKit Go.Proofs.YthkmgjkajllemaaDoor.Num
set_option linter.unusedVariables false
set_option linter.unusedSimpArgs false

/-- What a list of limbs is worth. -/
def val : List Int → Int
  | [] => 0
  | x :: l => x + (1000000000 : Int) * val l
/-- All limbs are limbs. -/
def Digs (l : List Int) : Prop := ∀ k, 0 ≤ l.getD k 0 ∧ l.getD k 0 < (1000000000 : Int)

theorem Digs.nil : Digs [] := fun k => by simp
theorem Digs.tail {x : Int} {l : List Int} (h : Digs (x :: l)) : Digs l := fun k => by have := h (k + 1); simpa using this
theorem Digs.head {x : Int} {l : List Int} (h : Digs (x :: l)) : 0 ≤ x ∧ x < (1000000000 : Int) := by have := h 0; simpa using this
theorem Digs.cons {x : Int} {l : List Int} (h0 : 0 ≤ x) (h1 : x < (1000000000 : Int)) (h : Digs l) : Digs (x :: l) := fun k => by
  cases k with
  | zero => simpa using ⟨h0, h1⟩
  | succ k => simpa using h k
theorem Digs.set {l : List Int} (h : Digs l) (i : Nat) {v : Int} (h0 : 0 ≤ v) (h1 : v < (1000000000 : Int)) : Digs (l.set i v) := fun k => by
  by_cases hi : i < l.length
  · rw [getD_set _ _ _ _ hi]
    split
    · exact ⟨h0, h1⟩
    · exact h k
  · rw [List.set_eq_of_length_le (by omega)]
    exact h k
theorem Digs.zeros (n : Nat) : Digs (List.replicate n 0) := fun k => by
  rw [List.getD_eq_getElem?_getD, List.getElem?_replicate]
  split <;> simp
theorem Digs.append {l r : List Int} (h : Digs l) (k : Digs r) : Digs (l ++ r) := by
  induction l with
  | nil => exact k
  | cons x l ih => exact Digs.cons h.head.1 h.head.2 (ih h.tail)
theorem Digs.one {x : Int} (h0 : 0 ≤ x) (h1 : x < (1000000000 : Int)) : Digs [x] := Digs.cons h0 h1 Digs.nil
theorem Digs.take {l : List Int} (h : Digs l) (n : Nat) : Digs (l.take n) := fun k => by
  rw [List.getD_eq_getElem?_getD, List.getElem?_take]
  split
  · exact h k
  · simp

theorem val_nonneg : ∀ {l : List Int}, Digs l → 0 ≤ val l
  | [], _ => Int.le_refl _
  | x :: l, h => by
    have := val_nonneg h.tail
    have := h.head
    unfold val
    omega
theorem val_append (l r : List Int) : val (l ++ r) = val l + (1000000000 : Int) ^ l.length * val r := by
  induction l with
  | nil => simp [val]
  | cons x l ih =>
    simp only [List.cons_append, val, List.length_cons, ih, Int.pow_succ]
    grind
theorem val_set : ∀ (l : List Int) (i : Nat) (v : Int), i < l.length → val (l.set i v) = val l + (1000000000 : Int) ^ i * (v - l.getD i 0)
  | x :: l, 0, v, _ => by simp [val]; omega
  | x :: l, i + 1, v, h => by
    simp only [List.set_cons_succ, val, List.getD_cons_succ, Int.pow_succ]
    rw [val_set l i v (by simpa using h)]
    grind
theorem val_zeros (n : Nat) : val (List.replicate n 0) = 0 := by
  induction n with
  | zero => rfl
  | succ n ih => simp [List.replicate_succ, val, ih]
theorem pow_pos (n : Nat) : 0 < (1000000000 : Int) ^ n := Int.pow_pos (by decide)
theorem val_lt : ∀ {l : List Int}, Digs l → val l < (1000000000 : Int) ^ l.length
  | [], _ => by simp [val]
  | x :: l, h => by
    have h1 := val_lt h.tail
    have := h.head
    simp only [val, List.length_cons, Int.pow_succ]
    omega
theorem val_take_succ (l : List Int) (n : Nat) (h : n < l.length) : val (l.take (n + 1)) = val (l.take n) + (1000000000 : Int) ^ n * l.getD n 0 := by
  rw [List.take_succ_eq_append_getElem h, val_append, List.getD_eq_getElem?_getD, List.getElem?_eq_getElem h]
  simp [val, Nat.min_eq_left (Nat.le_of_lt h)]

theorem digs_limbs (n : Nat) : Digs (limbs n) := by
  induction n using Nat.strongRecOn with
  | ind n ih =>
    rcases Nat.eq_zero_or_pos n with h | h
    · subst h; rw [limbs_zero]; exact Digs.nil
    · rw [limbs_pos h]
      exact Digs.cons (by omega) (by show _ < (1000000000 : Int); omega) (ih _ (by omega))
theorem val_limbs (n : Nat) : val (limbs n) = n := by
  induction n using Nat.strongRecOn with
  | ind n ih =>
    rcases Nat.eq_zero_or_pos n with h | h
    · subst h; rw [limbs_zero]; rfl
    · rw [limbs_pos h, val, ih _ (by omega)]
      show _ + (1000000000 : Int) * _ = _
      omega
/-- A list of limbs whose last one is not 0 is that of its worth. -/
theorem limbs_val : ∀ {l : List Int}, Digs l → (∀ h : l ≠ [], l.getLast h ≠ 0) → limbs (val l).toNat = l
  | [], _, _ => by simp [val, limbs_zero]
  | [x], h, hl => by
    have h0 := h.head
    have hx : x ≠ 0 := by simpa using hl (by simp)
    obtain ⟨n, rfl⟩ := Int.eq_ofNat_of_zero_le h0.1
    have h1 : (n : Int) < 1000000000 := h0.2
    simp only [val]
    rw [show ((n : Int) + (1000000000 : Int) * 0).toNat = n by omega, limbs_pos (by omega), show n / 1000000000 = 0 by omega, limbs_zero]
    rw [show n % 1000000000 = n by omega]
  | x :: y :: l, h, hl => by
    have ih := limbs_val h.tail (fun hne => by have := hl (by simp); simpa using this)
    have h0 := h.head
    obtain ⟨n, rfl⟩ := Int.eq_ofNat_of_zero_le h0.1
    obtain ⟨m, hm⟩ := Int.eq_ofNat_of_zero_le (val_nonneg h.tail)
    have h1 : (n : Int) < 1000000000 := h0.2
    have hpos : 0 < m := by
      rcases Nat.eq_zero_or_pos m with hz | hz
      · subst hz
        rw [hm] at ih
        simp [limbs_zero] at ih
      · exact hz
    rw [val, hm]
    rw [hm, Int.toNat_natCast] at ih
    rw [show ((n : Int) + (1000000000 : Int) * m).toNat = n + 1000000000 * m by show (_ + (1000000000 : Int) * _).toNat = _; omega, limbs_pos (by omega)]
    rw [show (n + 1000000000 * m) % 1000000000 = n by omega, show (n + 1000000000 * m) / 1000000000 = m by omega, ih]
/-- A list of limbs without zeros at its end. -/
def trim (l : List Int) : List Int := limbs (val l).toNat
theorem trim_append_zero (l : List Int) : trim (l ++ [0]) = trim l := by
  unfold trim
  rw [val_append]
  simp [val]
theorem limbs_len_lt (a b : Nat) (h : (limbs a).length < (limbs b).length) : a < b := by
  have h1 := val_lt (digs_limbs a)
  rw [val_limbs] at h1
  have hp := (limbs_at b (limbs a).length h).2
  have h2 : 1000000000 ^ (limbs a).length ≤ b := by
    unfold rest at hp
    have := Nat.div_add_mod b (1000000000 ^ (limbs a).length)
    have h3 : 1000000000 ^ (limbs a).length * 1 ≤ 1000000000 ^ (limbs a).length * (b / 1000000000 ^ (limbs a).length) := Nat.mul_le_mul_left _ hp
    omega
  have h3 : (a : Int) < ((1000000000 ^ (limbs a).length : Nat) : Int) := by
    rw [Int.natCast_pow]; exact h1
  omega
theorem rest_step (n i : Nat) : rest n i = rest n i % 1000000000 + 1000000000 * rest n (i + 1) := by rw [rest_succ]; omega
theorem rest_done (n : Nat) : rest n (limbs n).length = 0 := by
  rcases Nat.eq_zero_or_pos (rest n (limbs n).length) with h | h
  · exact h
  · exact absurd ((rest_pos n _).2 h) (Nat.lt_irrefl _)
theorem limbs_getD (n i : Nat) : (limbs n).getD i 0 = ((rest n i % 1000000000 : Nat) : Int) := by
  by_cases h : i < (limbs n).length
  · exact (limbs_at n i h).1
  · have h0 : rest n i = 0 := by
      rcases Nat.eq_zero_or_pos (rest n i) with h1 | h1
      · exact h1
      · exact absurd ((rest_pos n i).2 h1) h
    rw [h0, List.getD_eq_getElem?_getD, List.getElem?_eq_none (by omega)]
    rfl
/-- A product of two limbs, and two limbs beside it, are less than the square. -/
theorem mul_room {x y o c : Int} (x0 : 0 ≤ x) (x1 : x < (1000000000 : Int)) (y0 : 0 ≤ y) (y1 : y < (1000000000 : Int)) (o0 : 0 ≤ o) (o1 : o < (1000000000 : Int)) (c0 : 0 ≤ c) (c1 : c < (1000000000 : Int)) : 0 ≤ x * y ∧ x * y < 1000000000000000000 ∧ 0 ≤ c + (o + x * y) ∧ c + (o + x * y) < 1000000000000000000 := by
  have h0 := Int.mul_nonneg x0 y0
  have h1 : x * y ≤ 999999999 * y := Int.mul_le_mul_of_nonneg_right (by show x ≤ 999999999; omega) y0
  omega
end Go.Proofs.YthkmgjkajllemaaDoor.Val

/- What the reference's functions on natural numbers compute: product, power of ten, comparison, division by one limb; plain facts on the printed functions. -/
namespace Go.Proofs.YthkmgjkajllemaaDoor.Arith
open Go.RowKit Go.Proofs.YthkmgjkajllemaaDoorW.PrintWords Go.Proofs.YthkmgjkajllemaaDoor.Num Go.Proofs.YthkmgjkajllemaaDoor.Val
set_option linter.unusedVariables false
set_option linter.unusedSimpArgs false

theorem w64 (n : Nat) (h : n < 9223372036854775808) : wrap64 (n : Int) = n := by unfold wrap64; omega
theorem w64' (x : Int) (h : -9223372036854775808 ≤ x) (h2 : x < 9223372036854775808) : wrap64 x = x := by unfold wrap64; omega
theorem rd_nat (l : List Int) (n : Nat) : rd l (n : Int) = l.getD n 0 := by unfold rd; rw [Int.toNat_natCast]

theorem last_of (l : List Int) (n : Nat) (h : l.length = n + 1) (hne : l ≠ []) : l.getLast hne = l.getD n 0 := by
  rw [List.getLast_eq_getElem, List.getD_eq_getElem?_getD, List.getElem?_eq_getElem (by omega)]
  simp [h]
theorem split_last (l : List Int) (n : Nat) (h : l.length = n + 1) (h0 : l.getD n 0 = 0) : l = l.take n ++ [0] := by
  have h1 := List.take_append_drop n l
  rw [List.drop_eq_getElem_cons (by omega : n < l.length), List.drop_eq_nil_of_le (by omega : l.length ≤ n + 1)] at h1
  rw [List.getD_eq_getElem?_getD, List.getElem?_eq_getElem (by omega : n < l.length), Option.getD_some] at h0
  rw [h0] at h1
  exact h1.symm

theorem natTrim_go : ∀ (n : Nat) (l : List Int) (k : Nat), l.length = n → Digs l → n < k → n < 4611686018427387904 → PNatMul.spec_natTrim.l0 k l = some (trim l) := by
  intro n
  induction n with
  | zero =>
    intro l k hl hd hk hb
    obtain ⟨k, rfl⟩ : ∃ m, k = m + 1 := ⟨k - 1, by omega⟩
    have : l = [] := List.length_eq_zero_iff.1 hl
    subst this
    simp [PNatMul.spec_natTrim.l0, trim, val, limbs_zero]
  | succ n ih =>
    intro l k hl hd hk hb
    obtain ⟨k, rfl⟩ : ∃ m, k = m + 1 := ⟨k - 1, by omega⟩
    have hne : l ≠ [] := by intro h; rw [h] at hl; simp at hl
    have e : wrap64 ((l.length : Int) - 1) = n := by rw [hl, w64' _ (by omega) (by omega)]; omega
    rw [PNatMul.spec_natTrim.l0, e, if_pos (by omega), if_pos (by omega), if_pos (by omega), rd_nat]
    by_cases h0 : l.getD n 0 = 0
    · rw [if_pos h0, if_pos (by omega), Int.toNat_natCast, ih (l.take n) k (by rw [List.length_take]; omega) (hd.take n) (by omega) (by omega)]
      conv => rhs; rw [split_last l n hl h0, trim_append_zero]
    · rw [if_neg h0]
      refine congrArg some ?_
      unfold trim
      exact (limbs_val hd (fun h => by rw [last_of l n hl h]; exact h0)).symm
theorem natTrim_go' : ∀ (n : Nat) (l : List Int) (k : Nat), l.length = n → Digs l → n < k → n < 4611686018427387904 → PnatShort.spec_natTrim.l0 k l = some (trim l) := by
  intro n
  induction n with
  | zero =>
    intro l k hl hd hk hb
    obtain ⟨k, rfl⟩ : ∃ m, k = m + 1 := ⟨k - 1, by omega⟩
    have : l = [] := List.length_eq_zero_iff.1 hl
    subst this
    simp [PnatShort.spec_natTrim.l0, trim, val, limbs_zero]
  | succ n ih =>
    intro l k hl hd hk hb
    obtain ⟨k, rfl⟩ : ∃ m, k = m + 1 := ⟨k - 1, by omega⟩
    have hne : l ≠ [] := by intro h; rw [h] at hl; simp at hl
    have e : wrap64 ((l.length : Int) - 1) = n := by rw [hl, w64' _ (by omega) (by omega)]; omega
    rw [PnatShort.spec_natTrim.l0, e, if_pos (by omega), if_pos (by omega), if_pos (by omega), rd_nat]
    by_cases h0 : l.getD n 0 = 0
    · rw [if_pos h0, if_pos (by omega), Int.toNat_natCast, ih (l.take n) k (by rw [List.length_take]; omega) (hd.take n) (by omega) (by omega)]
      conv => rhs; rw [split_last l n hl h0, trim_append_zero]
    · rw [if_neg h0]
      refine congrArg some ?_
      unfold trim
      exact (limbs_val hd (fun h => by rw [last_of l n hl h]; exact h0)).symm

/-- How far the product has come: the first i limbs of a are multiplied. -/
structure Mul (a b out : List Int) (i : Nat) : Prop where
  len : out.length = a.length + b.length
  digs : Digs out
  worth : val out = val (a.take i) * val b
  zero : ∀ k, i + b.length ≤ k → out.getD k 0 = 0
/-- Within limb i: j limbs of b are multiplied, the carry is c. -/
structure MulIn (a b out : List Int) (i j : Nat) (x c : Int) : Prop where
  len : out.length = a.length + b.length
  digs : Digs out
  c0 : 0 ≤ c
  c1 : c < (1000000000 : Int)
  worth : val out + c * (1000000000 : Int) ^ (i + j) = val (a.take i) * val b + (1000000000 : Int) ^ i * x * val (b.take j)
  zero : ∀ k, i + b.length ≤ k → out.getD k 0 = 0
theorem MulIn.step {a b out : List Int} {i j : Nat} {x c y t : Int} (h : MulIn a b out i j x c) (hi : i < a.length) (hj : j < b.length) (hb : Digs b) (x0 : 0 ≤ x) (x1 : x < (1000000000 : Int)) (hy : b.getD j 0 = y)
    (ht : t = c + (out.getD (i + j) 0 + x * y)) : MulIn a b (out.set (i + j) (t % 1000000000)) i (j + 1) x (t / 1000000000) := by
  have hyb := hb j
  rw [hy] at hyb
  have ho := h.digs (i + j)
  obtain ⟨m1, m2, m3, m4⟩ := mul_room x0 x1 hyb.1 hyb.2 ho.1 ho.2 h.c0 h.c1
  rw [← ht] at m3 m4
  have hlen := h.len
  refine ⟨by simp [hlen], h.digs.set _ (by omega) (by show _ < (1000000000 : Int); omega), by omega, by show _ < (1000000000 : Int); omega, ?_, fun k hk => ?_⟩
  · rw [val_set _ _ _ (by omega), val_take_succ b j hj, hy]
    have hw := h.worth
    have e : t % 1000000000 = t - (1000000000 : Int) * (t / 1000000000) := by omega
    rw [e]
    generalize t / 1000000000 = q at *
    have e2 : (1000000000 : Int) ^ (i + (j + 1)) = (1000000000 : Int) ^ (i + j) * 1000000000 := Int.pow_succ _ _
    have e3 : (1000000000 : Int) ^ (i + j) = (1000000000 : Int) ^ i * (1000000000 : Int) ^ j := Int.pow_add _ _ _
    rw [e2]
    rw [e3] at hw ⊢
    generalize (1000000000 : Int) ^ i = P at *
    generalize (1000000000 : Int) ^ j = Q at *
    grind
  · rw [getD_set _ _ _ _ (by omega), if_neg (by omega)]
    exact h.zero k hk
theorem MulIn.done {a b out : List Int} {i : Nat} {x c : Int} (h : MulIn a b out i b.length x c) (hi : i < a.length) (hx : a.getD i 0 = x) : Mul a b (out.set (i + b.length) c) (i + 1) := by
  have hlen := h.len
  refine ⟨by simp [hlen], h.digs.set _ h.c0 h.c1, ?_, fun k hk => ?_⟩
  · rw [val_set _ _ _ (by omega), h.zero _ (Nat.le_refl _), val_take_succ a i hi, hx]
    have hw := h.worth
    rw [List.take_length] at hw
    generalize (1000000000 : Int) ^ (i + b.length) = P at *
    generalize (1000000000 : Int) ^ i = Q at *
    grind
  · rw [getD_set _ _ _ _ (by omega), if_neg (by omega)]
    exact h.zero k (by omega)
theorem Mul.enter {a b out : List Int} {i : Nat} (h : Mul a b out i) (x : Int) : MulIn a b out i 0 x 0 :=
  ⟨h.len, h.digs, Int.le_refl _, by show (0 : Int) < 1000000000; omega, by rw [h.worth]; simp [val], h.zero⟩

theorem mul_l1 (k : Nat) (x1 x5 : List Int) (x6 x7 x8 : Int) (x17 : List Int) (x18 x19 : Int) (x24 : List Int) (x25 x26 : Int) (y o t : Int) (p : Nat)
    (h1 : x26 < x25) (h2 : 0 ≤ x26) (h3 : x26 < (x24.length : Int)) (h4 : wrap64 (x6 + x26) = (p : Int)) (h5 : (p : Int) < (x5.length : Int)) (hy : rd x24 x26 = y) (ho : rd x5 (p : Int) = o)
    (ht : IntKind.u64.wrap (x8 + (IntKind.u64.wrap ((IntKind.u64.wrap o) + (IntKind.u64.wrap ((IntKind.u64.wrap (x7)) * (IntKind.u64.wrap y)))))) = t) :
    PNatMul.spec_NatMul.l1 (k + 1) x1 x5 x6 x7 x8 x17 x18 x19 x24 x25 x26 = PNatMul.spec_NatMul.l1 k x1 (x5.set p ((Int.tmod t 1000000000) % 4294967296)) x6 x7 (IntKind.u64.wrap (Int.tdiv t 1000000000)) x17 x18 x19 x24 x25 (wrap64 (x26 + 1)) := by
  rw [PNatMul.spec_NatMul.l1]
  simp only [h1, h2, h3, h4, h5, hy, ho, ht, if_true, Int.toNat_natCast, show (0 : Int) ≤ (p : Int) from by omega]
theorem natMul_in (a b : List Int) (ha : Digs a) (hb : Digs b) (hla : a.length < 1000000) (hlb : b.length < 1000000) (i : Nat) (hi : i < a.length) (x : Int) (hx : a.getD i 0 = x) (k : Nat) :
    ∀ (d j : Nat) (out : List Int) (c : Int), j + d = b.length → MulIn a b out i j x c →
      ∃ out', Mul a b out' (i + 1) ∧ PNatMul.spec_NatMul.l1 (k + d + 1) b out i x c a a.length i b b.length j = PNatMul.spec_NatMul.l0 k b out' a a.length ((i + 1 : Nat) : Int) := by
  have hxb := ha i
  rw [hx] at hxb
  intro d
  induction d with
  | zero =>
    intro j out c hj h
    obtain rfl : j = b.length := by omega
    have hlen := h.len
    have e1 : wrap64 ((i : Int) + (b.length : Int)) = ((i + b.length : Nat) : Int) := by rw [w64' _ (by omega) (by omega)]; omega
    have e2 : wrap64 ((i : Int) + 1) = ((i + 1 : Nat) : Int) := by rw [w64' _ (by omega) (by omega)]; omega
    have e3 : c % 4294967296 = c := by have := h.c0; have h1 : c < 1000000000 := h.c1; omega
    refine ⟨_, h.done hi hx, ?_⟩
    rw [PNatMul.spec_NatMul.l1, if_neg (by omega), e1, e2, e3, if_pos (by omega), if_pos (by omega), Int.toNat_natCast]
  | succ d ih =>
    intro j out c hj h
    have hlen := h.len
    obtain ⟨y, hy⟩ : ∃ y, b.getD j 0 = y := ⟨_, rfl⟩
    have hyb := hb j
    have ho := h.digs (i + j)
    rw [hy] at hyb
    obtain ⟨o, hod⟩ : ∃ o, out.getD (i + j) 0 = o := ⟨_, rfl⟩
    rw [hod] at ho
    obtain ⟨m1, m2, m3, m4⟩ := mul_room hxb.1 hxb.2 hyb.1 hyb.2 ho.1 ho.2 h.c0 h.c1
    obtain ⟨t, ht⟩ : ∃ t, c + (o + x * y) = t := ⟨_, rfl⟩
    have hs := h.step hi (by omega) hb hxb.1 hxb.2 hy (t := t) (by rw [hod]; exact ht.symm)
    obtain ⟨out', hm, he⟩ := ih (j + 1) _ _ (by omega) hs
    refine ⟨out', hm, ?_⟩
    have k1 : (j : Int) < (b.length : Int) := by omega
    have k2 : ((i + j : Nat) : Int) < (out.length : Int) := by omega
    have k3 : (0 : Int) ≤ (j : Int) := by omega
    have e1 : wrap64 ((i : Int) + (j : Int)) = ((i + j : Nat) : Int) := by rw [w64' _ (by omega) (by omega)]; omega
    have e2 : wrap64 ((j : Int) + 1) = ((j + 1 : Nat) : Int) := by rw [w64' _ (by omega) (by omega)]; omega
    have o1 : o < 1000000000 := ho.2
    have x1 : x < 1000000000 := hxb.2
    have y1 : y < 1000000000 := hyb.2
    have c1 : c < 1000000000 := h.c1
    have e3 : IntKind.u64.wrap (c + (IntKind.u64.wrap ((IntKind.u64.wrap o) + (IntKind.u64.wrap ((IntKind.u64.wrap x) * (IntKind.u64.wrap y)))))) = t := by
      rw [IntWalk.u64_in o ⟨ho.1, by omega⟩, IntWalk.u64_in x ⟨hxb.1, by omega⟩, IntWalk.u64_in y ⟨hyb.1, by omega⟩, IntWalk.u64_in (x * y) ⟨m1, by omega⟩, IntWalk.u64_in (o + x * y) ⟨by omega, by omega⟩, ht, IntWalk.u64_in t ⟨by omega, by omega⟩]
    have e4 : Int.tmod t 1000000000 % 4294967296 = t % 1000000000 := by rw [Int.tmod_eq_emod_of_nonneg (by omega)]; omega
    have e5 : IntKind.u64.wrap (Int.tdiv t 1000000000) = t / 1000000000 := by rw [Int.tdiv_eq_ediv_of_nonneg (by omega), IntWalk.u64_in _ ⟨by omega, by omega⟩]
    rw [show k + (d + 1) + 1 = (k + d + 1) + 1 by omega, mul_l1 (k + d + 1) b out i x c a a.length i b b.length j y o t (i + j) k1 k3 k1 e1 k2 (by rw [rd_nat]; exact hy) (by rw [rd_nat]; exact hod) e3, e4, e5, e2]
    exact he

theorem natMul_go (a b : List Int) (ha : Digs a) (hb : Digs b) (hla : a.length < 1000000) (hlb : b.length < 1000000) :
    ∀ (d i : Nat) (out : List Int) (k : Nat), i + d = a.length → Mul a b out i → d * (b.length + 2) + (a.length + b.length + 2) ≤ k →
      PNatMul.spec_NatMul.l0 k b out a a.length (i : Int) = some (limbs (val a * val b).toNat) := by
  intro d
  induction d with
  | zero =>
    intro i out k hi h hk
    obtain rfl : i = a.length := by omega
    obtain ⟨k, rfl⟩ : ∃ m, k = m + 1 := ⟨k - 1, by omega⟩
    have hlen := h.len
    rw [PNatMul.spec_NatMul.l0, if_neg (by omega)]
    unfold PNatMul.spec_natTrim.f
    rw [natTrim_go _ out k rfl h.digs (by omega) (by omega)]
    have hw := h.worth
    rw [List.take_length] at hw
    simp only [Option.bind_some, trim, hw]
  | succ d ih =>
    intro i out k hi h hk
    rw [Nat.succ_mul] at hk
    obtain ⟨k, rfl⟩ : ∃ m, k = m + b.length + 1 + 1 := ⟨k - (b.length + 2), by omega⟩
    have hilt : i < a.length := by omega
    rw [PNatMul.spec_NatMul.l0, if_pos (by omega), if_pos (by omega), if_pos (by omega), rd_nat]
    obtain ⟨out', hm, he⟩ := natMul_in a b ha hb hla hlb i hilt _ rfl k b.length 0 out 0 (by omega) (h.enter _)
    refine Eq.trans he ?_
    exact ih (i + 1) out' k (by omega) hm (by omega)

theorem Mul.start (a b : List Int) : Mul a b (List.replicate (a.length + b.length) 0) 0 :=
  ⟨by simp, Digs.zeros _, by rw [val_zeros]; simp [val], fun k hk => by rw [List.getD_eq_getElem?_getD, List.getElem?_replicate]; split <;> simp⟩
theorem natMul_f (m n : Nat) (hm : (limbs m).length < 1000000) (hn : (limbs n).length < 1000000) :
    ∃ k, PNatMul.spec_NatMul.f k (limbs m) (limbs n) = some (limbs (m * n)) := by
  obtain ⟨K, hK⟩ : ∃ K, (limbs m).length * ((limbs n).length + 2) + ((limbs m).length + (limbs n).length + 2) = K := ⟨_, rfl⟩
  refine ⟨K, ?_⟩
  have e : wrap64 (((limbs m).length : Int) + ((limbs n).length : Int)) = (((limbs m).length + (limbs n).length : Nat) : Int) := by rw [w64' _ (by omega) (by omega)]; omega
  unfold PNatMul.spec_NatMul.f
  rw [e, if_pos (by omega), Int.toNat_natCast, if_pos (by omega)]
  have h := natMul_go (limbs m) (limbs n) (digs_limbs m) (digs_limbs n) hm hn (limbs m).length 0 (List.replicate ((limbs m).length + (limbs n).length) 0) K (Nat.zero_add _) (Mul.start _ _) (Nat.le_of_eq hK)
  rw [val_limbs, val_limbs, ← Int.natCast_mul, Int.toNat_natCast, show ((0 : Nat) : Int) = 0 from rfl] at h
  exact h

/-- Pow10: the limbs of a power of ten. -/
theorem pow10_go (n : Nat) : ∀ (d i : Nat) (out : List Int) (k : Nat), i + d = n % 9 → d < k → out.length = n / 9 + 1 → n < 1000000 →
    PPow10.spec_Pow10.l0 k n out ((10 ^ i : Nat) : Int) (i : Int) = some (out.set (n / 9) ((10 ^ (n % 9) : Nat) : Int)) := by
  intro d
  have et : Int.tmod (n : Int) 9 = ((n % 9 : Nat) : Int) := by rw [Int.tmod_eq_emod_of_nonneg (by omega)]; omega
  induction d with
  | zero =>
    intro i out k hi hk hl hn
    obtain rfl : i = n % 9 := by omega
    obtain ⟨k, rfl⟩ : ∃ m, k = m + 1 := ⟨k - 1, by omega⟩
    have e1 : wrap64 (Int.tdiv (n : Int) 9) = ((n / 9 : Nat) : Int) := by rw [Int.tdiv_eq_ediv_of_nonneg (by omega), w64' _ (by omega) (by omega)]; omega
    rw [PPow10.spec_Pow10.l0, et, if_neg (by omega), e1, if_pos (by omega), if_pos (by omega), Int.toNat_natCast]
  | succ d ih =>
    intro i out k hi hk hl hn
    obtain ⟨k, rfl⟩ : ∃ m, k = m + 1 := ⟨k - 1, by omega⟩
    have hp : 10 ^ i < 10 ^ 8 := Nat.pow_lt_pow_right (by decide) (by omega)
    have e1 : wrap64 ((i : Int) + 1) = ((i + 1 : Nat) : Int) := by rw [w64' _ (by omega) (by omega)]; omega
    have e2 : (((10 ^ i : Nat) : Int) * 10) % 4294967296 = ((10 ^ (i + 1) : Nat) : Int) := by rw [Nat.pow_succ]; omega
    rw [PPow10.spec_Pow10.l0, et, if_pos (by omega), e1, e2]
    exact ih (i + 1) out k (by omega) (by omega) hl hn
theorem pow10_limbs (n : Nat) : (List.replicate (n / 9 + 1) (0 : Int)).set (n / 9) ((10 ^ (n % 9) : Nat) : Int) = limbs (10 ^ n) := by
  obtain ⟨l, hl⟩ : ∃ l, (List.replicate (n / 9 + 1) (0 : Int)).set (n / 9) ((10 ^ (n % 9) : Nat) : Int) = l := ⟨_, rfl⟩
  have hp : 10 ^ (n % 9) < 10 ^ 9 := Nat.pow_lt_pow_right (by decide) (by omega)
  have hp0 : 0 < 10 ^ (n % 9) := Nat.pow_pos (by decide)
  have hlen : l.length = n / 9 + 1 := by rw [← hl]; simp
  have hd : Digs l := by rw [← hl]; exact (Digs.zeros _).set _ (by omega) (by show _ < (1000000000 : Int); omega)
  have hv : val l = ((10 ^ n : Nat) : Int) := by
    rw [← hl, val_set _ _ _ (by simp), val_zeros]
    have e0 : (List.replicate (n / 9 + 1) (0 : Int)).getD (n / 9) 0 = 0 := by rw [List.getD_eq_getElem?_getD, List.getElem?_replicate]; split <;> simp
    rw [e0, Int.zero_add, Int.sub_zero]
    rw [show (1000000000 : Int) ^ (n / 9) = ((1000000000 ^ (n / 9) : Nat) : Int) by rw [Int.natCast_pow]; rfl, ← Int.natCast_mul]
    refine congrArg _ ?_
    rw [show (1000000000 : Nat) = 10 ^ 9 from rfl, ← Nat.pow_mul, ← Nat.pow_add, Nat.div_add_mod]
  have hlast : ∀ h : l ≠ [], l.getLast h ≠ 0 := fun h => by
    rw [last_of l (n / 9) hlen h, ← hl, getD_set _ _ _ _ (by simp), if_pos rfl]
    omega
  have := limbs_val hd hlast
  rw [hv, Int.toNat_natCast] at this
  rw [hl]
  exact this.symm
theorem pow10_f (n : Nat) (hn : n < 1000000) : ∃ k, PPow10.spec_Pow10.f k (n : Int) = some (limbs (10 ^ n)) := by
  refine ⟨10, ?_⟩
  have e1 : wrap64 (Int.tdiv (n : Int) 9) = ((n / 9 : Nat) : Int) := by rw [Int.tdiv_eq_ediv_of_nonneg (by omega), w64' _ (by omega) (by omega)]; omega
  have e2 : wrap64 (((n / 9 : Nat) : Int) + 1) = ((n / 9 + 1 : Nat) : Int) := by rw [w64' _ (by omega) (by omega)]; omega
  unfold PPow10.spec_Pow10.f
  rw [e1, e2, if_neg (by omega), if_pos (by omega), Int.toNat_natCast, if_pos (by omega)]
  have h := pow10_go n (n % 9) 0 (List.replicate (n / 9 + 1) 0) 10 (by omega) (by omega) (by simp) hn
  rw [show ((10 ^ 0 : Nat) : Int) = 1 from rfl, show ((0 : Nat) : Int) = 0 from rfl, pow10_limbs] at h
  exact h

/-- NatCmp: how two numbers compare. -/
def cmp (m n : Nat) : Int := if m < n then -1 else if m = n then 0 else 1
theorem rest_lt (m n i : Nat) (h : rest m i < rest n i) : m < n := by
  unfold rest at h
  rcases Nat.lt_or_ge m n with h1 | h1
  · exact h1
  · have := Nat.div_le_div_right (c := 1000000000 ^ i) h1
    omega
theorem natCmp_go (m n : Nat) (hl : (limbs m).length = (limbs n).length) (hb : (limbs m).length < 1000000) : ∀ (i k : Nat), i ≤ (limbs m).length → i < k → rest m i = rest n i →
    PNatCmp.spec_NatCmp.l0 k (limbs m) (limbs n) ((i : Int) - 1) = some (cmp m n) := by
  intro i
  induction i with
  | zero =>
    intro k hi hk h
    obtain ⟨k, rfl⟩ : ∃ q, k = q + 1 := ⟨k - 1, by omega⟩
    rw [rest_zero, rest_zero] at h
    subst h
    rw [PNatCmp.spec_NatCmp.l0, if_neg (by omega)]
    unfold cmp
    rw [if_neg (by omega), if_pos rfl]
  | succ i ih =>
    intro k hi hk h
    obtain ⟨k, rfl⟩ : ∃ q, k = q + 1 := ⟨k - 1, by omega⟩
    have e0 : ((i + 1 : Nat) : Int) - 1 = i := by omega
    have e1 : wrap64 ((i : Int) - 1) = (i : Int) - 1 := w64' _ (by omega) (by omega)
    have hm := rest_step m i
    have hn := rest_step n i
    rw [h] at hm
    rw [e0, PNatCmp.spec_NatCmp.l0, if_pos (by omega), if_pos (by omega), if_pos (by omega), if_pos (by omega), rd_nat, rd_nat, limbs_getD, limbs_getD, e1]
    by_cases h1 : rest m i % 1000000000 = rest n i % 1000000000
    · rw [if_pos (by omega)]
      exact ih k (by omega) (by omega) (by omega)
    · rw [if_neg (by omega)]
      unfold cmp
      by_cases h2 : rest m i % 1000000000 < rest n i % 1000000000
      · rw [if_pos (by omega), if_pos (rest_lt m n i (by omega))]
      · have := rest_lt n m i (by omega)
        rw [if_neg (by omega), if_neg (by omega), if_neg (by omega)]
theorem natCmp_f (m n : Nat) (hm : (limbs m).length < 1000000) (hn : (limbs n).length < 1000000) : ∃ k, PNatCmp.spec_NatCmp.f k (limbs m) (limbs n) = some (cmp m n) := by
  refine ⟨(limbs m).length + 1, ?_⟩
  unfold PNatCmp.spec_NatCmp.f
  by_cases hl : (limbs m).length = (limbs n).length
  · have e : wrap64 (((limbs m).length : Int) - 1) = ((limbs m).length : Int) - 1 := w64' _ (by omega) (by omega)
    rw [if_pos (by omega), e]
    refine natCmp_go m n hl hm _ _ (Nat.le_refl _) (by omega) ?_
    rw [rest_done]
    rw [hl, rest_done]
  · rw [if_neg (by omega)]
    unfold cmp
    by_cases h2 : (limbs m).length < (limbs n).length
    · rw [if_pos (by omega), if_pos (limbs_len_lt m n h2)]
    · have := limbs_len_lt n m (by omega)
      rw [if_neg (by omega), if_neg (by omega), if_neg (by omega)]

/-- How far the division by one limb has come: the limbs from i on are divided. -/
structure Short (n b : Nat) (out : List Int) (i : Nat) : Prop where
  len : out.length = (limbs n).length
  digs : Digs out
  worth : val out = (1000000000 : Int) ^ i * ((rest n i / b : Nat) : Int)
  zero : ∀ k, k < i → out.getD k 0 = 0
theorem Short.step {n b : Nat} {out : List Int} {i : Nat} (h : Short n b out (i + 1)) (hi : i < (limbs n).length) (hb : 0 < b) (hbl : b < 1000000000) :
    Short n b (out.set i (((rest n (i + 1) % b * 1000000000 + rest n i % 1000000000) / b : Nat) : Int)) i ∧ (rest n (i + 1) % b * 1000000000 + rest n i % 1000000000) % b = rest n i % b ∧ (rest n (i + 1) % b * 1000000000 + rest n i % 1000000000) / b < 1000000000 := by
  have hs := rest_step n i
  have hlen := h.len
  have hmod := Nat.mod_lt (rest n (i + 1)) hb
  obtain ⟨x, hx⟩ : ∃ x, rest n i % 1000000000 = x := ⟨_, rfl⟩
  have hxl : x < 1000000000 := by omega
  obtain ⟨t, ht⟩ : ∃ t, rest n (i + 1) = t := ⟨_, rfl⟩
  have hw := h.worth
  rw [hx, ht] at hs ⊢
  rw [ht] at hmod hw
  have hdm := Nat.div_add_mod t b
  have hq : (t % b * 1000000000 + x) / b < 1000000000 := by
    rw [Nat.div_lt_iff_lt_mul hb]
    have : (t % b + 1) * 1000000000 ≤ b * 1000000000 := Nat.mul_le_mul_right _ hmod
    omega
  have hrec : rest n i = t / b * 1000000000 * b + (t % b * 1000000000 + x) := by
    rw [hs]
    generalize t / b = u at *
    generalize t % b = v at *
    subst hdm
    grind
  have hd : rest n i / b = t / b * 1000000000 + (t % b * 1000000000 + x) / b := by
    rw [hrec, Nat.mul_comm (t / b * 1000000000) b, Nat.mul_add_div hb]
  have hm : (t % b * 1000000000 + x) % b = rest n i % b := by
    rw [hrec, Nat.mul_comm (t / b * 1000000000) b, Nat.mul_add_mod]
  obtain ⟨u, hu⟩ : ∃ u, (t % b * 1000000000 + x) / b = u := ⟨_, rfl⟩
  rw [hu] at hq hd ⊢
  refine ⟨⟨by simp [hlen], h.digs.set _ (by omega) (by show _ < (1000000000 : Int); omega), ?_, fun k hk => ?_⟩, hm, hq⟩
  · rw [val_set _ _ _ (by omega), h.zero i (by omega), hw, hd, Int.pow_succ]
    generalize t / b = v
    generalize (1000000000 : Int) ^ i = P
    rw [Int.natCast_add, Int.natCast_mul]
    grind
  · rw [getD_set _ _ _ _ (by omega), if_neg (by omega)]
    exact h.zero k (by omega)
theorem natShort_go (n b : Nat) (hb : 0 < b) (hbl : b < 1000000000) (hn : (limbs n).length < 1000000) : ∀ (i : Nat) (out : List Int) (k : Nat), i ≤ (limbs n).length → i + (limbs n).length + 1 < k → Short n b out i →
    PnatShort.spec_natShort.l0 k (limbs n) b out ((rest n i % b : Nat) : Int) ((i : Int) - 1) = some (limbs (n / b), ((n % b : Nat) : Int)) := by
  intro i
  induction i with
  | zero =>
    intro out k hi hk h
    obtain ⟨k, rfl⟩ : ∃ q, k = q + 1 := ⟨k - 1, by omega⟩
    have hlen := h.len
    have hw := h.worth
    have hmod := Nat.mod_lt n hb
    rw [rest_zero, Int.pow_zero, Int.one_mul] at hw
    rw [PnatShort.spec_natShort.l0, if_neg (by omega)]
    unfold PnatShort.spec_natTrim.f
    rw [natTrim_go' _ out k rfl h.digs (by omega) (by omega), rest_zero]
    simp only [Option.bind_some, trim, hw, Int.toNat_natCast]
    rw [show ((n % b : Nat) : Int) % 4294967296 = ((n % b : Nat) : Int) by omega]
  | succ i ih =>
    intro out k hi hk h
    obtain ⟨k, rfl⟩ : ∃ q, k = q + 1 := ⟨k - 1, by omega⟩
    have hlen := h.len
    obtain ⟨hs, hm, hq⟩ := h.step (by omega) hb hbl
    have e0 : ((i + 1 : Nat) : Int) - 1 = i := by omega
    have e1 : wrap64 ((i : Int) - 1) = (i : Int) - 1 := w64' _ (by omega) (by omega)
    have eb : IntKind.u64.wrap (b : Int) = b := IntWalk.u64_in _ ⟨by omega, by omega⟩
    have hmod := Nat.mod_lt (rest n (i + 1)) hb
    obtain ⟨v, hv⟩ : ∃ v, rest n (i + 1) % b = v := ⟨_, rfl⟩
    obtain ⟨x, hx⟩ : ∃ x, rest n i % 1000000000 = x := ⟨_, rfl⟩
    have hxl : x < 1000000000 := by omega
    rw [hv] at hmod
    rw [hv, hx] at hs hm hq
    obtain ⟨u, hu⟩ : ∃ u, (v * 1000000000 + x) / b = u := ⟨_, rfl⟩
    rw [hu] at hs hq
    have e2 : IntKind.u64.wrap ((IntKind.u64.wrap ((v : Int) * 1000000000)) + (IntKind.u64.wrap (x : Int))) = ((v * 1000000000 + x : Nat) : Int) := by
      rw [IntWalk.u64_in (x : Int) ⟨by omega, by omega⟩, IntWalk.u64_in ((v : Int) * 1000000000) ⟨by omega, by omega⟩, IntWalk.u64_in _ ⟨by omega, by omega⟩]
      omega
    have e3 : IntKind.u64.wrap (Int.tdiv ((v * 1000000000 + x : Nat) : Int) b) % 4294967296 = ((u : Nat) : Int) := by
      rw [Int.tdiv_eq_ediv_of_nonneg (by omega), ← Int.natCast_ediv, hu, IntWalk.u64_in _ ⟨by omega, by omega⟩]
      omega
    have e4 : Int.tmod ((v * 1000000000 + x : Nat) : Int) b = ((rest n i % b : Nat) : Int) := by
      rw [Int.tmod_eq_emod_of_nonneg (by omega), ← Int.natCast_emod, hm]
    rw [e0, hv, PnatShort.spec_natShort.l0, if_pos (by omega), if_pos (by omega), if_pos (by omega), eb, if_neg (by omega), if_pos (by omega), rd_nat, limbs_getD, hx, e2, e3, e4, e1, Int.toNat_natCast]
    exact ih _ k (by omega) (by omega) hs
theorem natShort_f (n b : Nat) (hb : 0 < b) (hbl : b < 1000000000) (hn : (limbs n).length < 1000000) : ∃ k, PnatShort.spec_natShort.f k (limbs n) (b : Int) = some (limbs (n / b), ((n % b : Nat) : Int)) := by
  refine ⟨(limbs n).length + (limbs n).length + 2, ?_⟩
  have e : wrap64 (((limbs n).length : Int) - 1) = ((limbs n).length : Int) - 1 := w64' _ (by omega) (by omega)
  unfold PnatShort.spec_natShort.f
  rw [if_pos (by omega), Int.toNat_natCast, if_pos (by omega), e]
  have h := natShort_go n b hb hbl hn (limbs n).length (List.replicate (limbs n).length 0) ((limbs n).length + (limbs n).length + 2) (Nat.le_refl _) (by omega)
    ⟨by simp, Digs.zeros _, by rw [val_zeros, rest_done]; simp, fun k hk => by rw [List.getD_eq_getElem?_getD, List.getElem?_replicate]; split <;> simp⟩
  rw [rest_done, Nat.zero_mod, show ((0 : Nat) : Int) = 0 from rfl] at h
  exact h
end Go.Proofs.YthkmgjkajllemaaDoor.Arith

/- The reference's text of a natural number is its decimal digits, and it tells how many there are. -/
namespace Go.Proofs.YthkmgjkajllemaaDoor.Str
open Go.RowKit Go.Proofs.YthkmgjkajllemaaDoorW.PrintWords Go.Proofs.YthkmgjkajllemaaDoorW.PrintLast Go.Proofs.YthkmgjkajllemaaDoorW.PrintMore Go.Proofs.YthkmgjkajllemaaDoor.Num
set_option linter.unusedVariables false
set_option linter.unusedSimpArgs false

theorem info5 : (Tryd.prog.info? 5).map (fun i => (i.zero, i.size, i.bytes)) = some (some (.int .u8 0), 1, 1) := by kernel_rfl

/-- A natural number in memory: a slice of its limbs. -/
def IsNat (w : World) (v : Value) (n : Nat) : Prop := ∃ A c, v = .slice A (limbs n).length c ∧ (limbs n).length ≤ c ∧ Kd.C (Kd.int .u32) w A (limbs n).length (limbs n)
theorem IsNat.below {w w1 : World} {v : Value} {n : Nat} (h : IsNat w v n) (hb : Below w.heap.size w w1) : IsNat w1 v n := by
  obtain ⟨A, c, e, hc, hr⟩ := h
  exact ⟨A, c, e, hc, Kd.C_below hr hb⟩

theorem natFrom_go (d : Nat) : ∀ (k x : Nat) (acc : List Int), d < k → x < 1000000000 ^ d → x < 18446744073709551616 → acc.length + d < 35184372088832 →
    PNatFrom.spec_NatFrom.l0 k (x : Int) acc = some (acc ++ limbs x) := by
  induction d with
  | zero =>
    intro k x acc hk hx hb hl
    obtain ⟨k, rfl⟩ : ∃ m, k = m + 1 := ⟨k - 1, by omega⟩
    have : x = 0 := by simpa using hx
    subst this
    simp [PNatFrom.spec_NatFrom.l0, limbs_zero]
  | succ d ih =>
    intro k x acc hk hx hb hl
    obtain ⟨k, rfl⟩ : ∃ m, k = m + 1 := ⟨k - 1, by omega⟩
    by_cases h0 : x = 0
    · subst h0
      simp [PNatFrom.spec_NatFrom.l0, limbs_zero]
    · have e1 : IntKind.u64.wrap (Int.tdiv (x : Int) 1000000000) = ((x / 1000000000 : Nat) : Int) := by
        rw [Int.tdiv_eq_ediv_of_nonneg (by omega), IntWalk.u64_in _ (by omega)]
        omega
      have e2 : (Int.tmod (x : Int) 1000000000) % 4294967296 = ((x % 1000000000 : Nat) : Int) := by
        rw [Int.tmod_eq_emod_of_nonneg (by omega)]
        omega
      rw [PNatFrom.spec_NatFrom.l0, if_pos (by omega), if_pos (by omega), e1, e2, ih k _ _ (by omega) (by
        rw [Nat.pow_succ] at hx
        exact Nat.div_lt_of_lt_mul (by rw [Nat.mul_comm]; exact hx)) (by omega) (by simp; omega), limbs_pos (show 0 < x by omega)]
      simp

/-- NatFrom: the limbs of a number. -/
theorem natFrom_any (x : Nat) (w : World) (h : x < 18446744073709551616) :
    Calls Tryd.prog 11 #[.int .u64 x] w fun e w' => ∃ v, e = .returned v ∧ IsNat w' v x ∧ Below w.heap.size w w' := by
  have e : PNatFrom.spec_NatFrom.f 4 (x : Int) = some (limbs x) := by
    unfold PNatFrom.spec_NatFrom.f
    rw [natFrom_go 3 4 x [] (by omega) (by omega) h (by simp)]
    rfl
  refine (PNatFrom.spec_NatFrom.calls 4 x _ w e).mono ?_
  rintro e w' ⟨v, rfl, hr, hb⟩
  obtain ⟨A, c, rfl, hc, hr⟩ := Kd.R_reads hr
  exact ⟨_, rfl, ⟨A, c, rfl, hc, hr⟩, hb⟩

set_option maxHeartbeats 4000000 in
set_option maxRecDepth 100000 in
/-- The text of a number. -/
theorem natString_any (n : Nat) (v : Value) (w : World) (hv : IsNat w v n) (hn : (limbs n).length < 1000000000) :
    Calls Tryd.prog 12 #[v] w fun e w' => e = .returned (.string (text n)) ∧ Below w.heap.size w w' := by
  obtain ⟨A, c, rfl, hc, hr⟩ := hv
  have HR := Aside0.mk hr
  have HB := Aside0.mk (Below.refl w.heap.size w)
  clear hr
  go_enter Tryd.func12, Tryd.ntmps12
  go_wp2
  go_loopw [3, 11] (fun v3 v11 w' => ∃ (xs : List Int) (i : Nat), v11 = .int .i64 i ∧ i ≤ (limbs n).length ∧ Aside0 (xs ++ decs (rest n i) = decs n) ∧ xs.length ≤ 9 * i ∧ Aside0 (Kd.R (Kd.int .u8) 5 w' w.heap.size (fun _ => True) v3 xs) ∧ Aside0 (Below w.heap.size w w')) (fun _ v11 _ => (limbs n).length - (intOf v11).toNat)
  case atStart => exact ⟨[], 0, rfl, Nat.zero_le _, ⟨by rw [rest_zero]; rfl⟩, by simp, ⟨Kd.R_nil _ _ _ _ _⟩, HB⟩
  case round =>
    obtain ⟨xs, i, rfl, hi, HX, hxl, HO, HB⟩ := hrel
    by_cases hlt : i < (limbs n).length
    · obtain ⟨hx, hpos⟩ := limbs_at n i hlt
      obtain ⟨ad, e0, hc0⟩ := Kd.at_int HR.out (i : Int) (by omega) (by omega)
      have hc1 := (HB.out.cell (World.block_lt_of_cell? w _ hc0)).trans hc0
      have hq := rest_pos n (i + 1)
      rw [rest_succ] at hq
      obtain ⟨x, hx2⟩ : ∃ x, rest n i % 1000000000 = x := ⟨_, rfl⟩
      obtain ⟨q, hq2⟩ : ∃ q, rest n i / 1000000000 = q := ⟨_, rfl⟩
      have hx9 : x < 1000000000 := by omega
      rw [hq2] at hq
      unfold rd at hc1
      rw [Int.toNat_natCast, hx, hx2] at hc1
      subst e0
      have HX1 : Aside0 (xs ++ remd 0 x q = decs n) := ⟨by rw [← HX.out, remd_start (rest n i), hx2, hq2]⟩
      have HQ : Aside0 (rest n (i + 1) = q) := ⟨by rw [rest_succ, hq2]⟩
      clear hc0 hx hx2 hq2 HX
      go_wp2
      go_loopw [3, 5, 6] (fun v3 v5 v6 w' => ∃ (ys : List Int) (y j : Nat), v5 = .int .u32 y ∧ v6 = .int .i64 j ∧ j ≤ 9 ∧ y < 10 ^ (9 - j) ∧ Aside0 (ys ++ remd j y q = decs n) ∧ ys.length ≤ 9 * i + j ∧ Aside0 (Kd.R (Kd.int .u8) 5 w' w.heap.size (fun _ => True) v3 ys) ∧ Aside0 (Below w.heap.size w w')) (fun _ _ v6 _ => 9 - (intOf v6).toNat)
      case atStart => exact ⟨xs, x, 0, rfl, rfl, by omega, by omega, HX1, by omega, HO, HB⟩
      case round =>
        clear HX1 hx9 hxl HO HB hc1
        obtain ⟨ys, y, j, rfl, rfl, hj, hy, HX, hyl, HO, HB⟩ := hrel
        have hy9 : y < 1000000000 := Nat.lt_of_lt_of_le hy (Nat.pow_le_pow_right (by omega) (show 9 - j ≤ 9 by omega))
        by_cases hj9 : j < 9
        · by_cases hmore : 0 < y ∨ 0 < q
          · have hstep := remd_step j y q hj9 hmore
            have hy' : y / 10 < 10 ^ (9 - (j + 1)) := by
              rw [show 9 - j = (9 - (j + 1)) + 1 by omega, Nat.pow_succ] at hy
              omega
            have HX2 : Aside0 ((ys ++ [((48 + y % 10 : Nat) : Int)]) ++ remd (j + 1) (y / 10) q = decs n) := ⟨by rw [← HX.out, hstep]; simp⟩
            clear hstep hy
            have hj9b : decide ((j : Int) < 9) = true := decide_eq_true (by omega)
            by_cases hy0 : 0 < y
            · go_wp2_with (first | ((with_reducible refine gate_builtin (b := .append) (xs := #[.tmp 31, .tmp 36]) rfl ?_); at_builtin; refine Kd.R_append (Kd.int .u8) (w0 := w) w.heap.size rfl (.tmp 31) (.tmp 36) 70 5 (.int .u8 0) 1 rfl Tryd.underlying70 info5 rfl (by decide) (by omega) u3 ys (48 + (y : Int) % 10) [.int .u8 (48 + (y : Int) % 10)] (fun _ => True) (fun _ => False) rfl rfl ?aP (fun _ hk => hk.elim) ?aF ?aO ?aB ?aS ?aL ?_; (case aP => exact rfl); (case aB => exact HB.out); (case aF => exact (fun _ _ => trivial)); (case aO => exact HO.out); (case aS => exact HB.out.size); (case aL => omega); intro v1 w1 ho hb hg hat; have HO1 := Aside0.mk ho; have HB1 := Aside0.mk hb; clear ho hb hg hat HO HB))
              go_roundw
              case rel => exact ⟨_, y / 10, j + 1, by go_num, by go_num, by omega, hy', HX2, by simp; omega, HO1, HB1⟩
              case measure => simp [intOf]; omega
            · obtain rfl : y = 0 := by omega
              have hq0 : i + 1 < (limbs n).length := hq.2 (by omega)
              go_wp2_with (first | ((with_reducible refine gate_builtin (b := .append) (xs := #[.tmp 31, .tmp 36]) rfl ?_); at_builtin; refine Kd.R_append (Kd.int .u8) (w0 := w) w.heap.size rfl (.tmp 31) (.tmp 36) 70 5 (.int .u8 0) 1 rfl Tryd.underlying70 info5 rfl (by decide) (by omega) u3 ys (48) [.int .u8 (48)] (fun _ => True) (fun _ => False) rfl rfl ?aP (fun _ hk => hk.elim) ?aF ?aO ?aB ?aS ?aL ?_; (case aP => exact rfl); (case aB => exact HB.out); (case aF => exact (fun _ _ => trivial)); (case aO => exact HO.out); (case aS => exact HB.out.size); (case aL => omega); intro v1 w1 ho hb hg hat; have HO1 := Aside0.mk ho; have HB1 := Aside0.mk hb; clear ho hb hg hat HO HB))
              go_roundw
              case rel => exact ⟨_, 0, j + 1, by go_num, by go_num, by omega, hy', HX2, by simp; omega, HO1, HB1⟩
              case measure => simp [intOf]; omega
          · obtain rfl : y = 0 := by omega
            have hq0 : ¬ i + 1 < (limbs n).length := fun h => hmore (.inr (hq.1 h))
            have hX3 : Aside0 (ys ++ decs (rest n (i + 1)) = decs n) := ⟨by rw [HQ.out, ← HX.out, show q = 0 by omega, remd_end0]⟩
            have hj9b : decide ((j : Int) < 9) = true := decide_eq_true (by omega)
            go_wp2
            go_roundw
            case rel => exact ⟨ys, i + 1, by go_num, by omega, hX3, by omega, HO, HB⟩
            case measure => simp [intOf]; omega
        · obtain rfl : j = 9 := by omega
          obtain rfl : y = 0 := by simpa using hy
          have hX3 : Aside0 (ys ++ decs (rest n (i + 1)) = decs n) := ⟨by rw [HQ.out, ← HX.out, remd_end9 0 q (by omega)]⟩
          go_wp2
          go_roundw
          case rel => exact ⟨ys, i + 1, by go_num, by omega, hX3, by omega, HO, HB⟩
          case measure => simp [intOf]; omega
    · have hi2 : i = (limbs n).length := by omega
      have hr0 : rest n i = 0 := by
        rcases Nat.eq_zero_or_pos (rest n i) with h | h
        · exact h
        · exact absurd ((rest_pos n i).2 h) hlt
      have HXn : Aside0 (xs = decs n) := ⟨by rw [← HX.out, hr0, decs_zero]; simp⟩
      clear hr0 HX
      subst hi2
      obtain ⟨A3, c3, e3, hc3, hr3⟩ := Kd.R_reads HO.out
      subst e3
      by_cases hn0 : n = 0
      · subst hn0
        have hx0 : xs.length = 0 := by rw [HXn.out, decs_zero]; rfl
        go_wp2
        go_ret
        exact ⟨by simp [text], HB.out⟩
      · have hxp : 0 < xs.length := by rw [HXn.out, decs_pos (by omega)]; simp
        obtain ⟨g, cap, eg, hgb, hgl, _⟩ := Kd.R_form HO.out hxp
        cases eg
        have hb9 : xs.length ≤ 9000000000 := by omega
        clear hgl hc3 hr3
        go_wp2
        go_loopw [7, 8] (fun v7 v8 w' => ∃ (ys : List Int) (i j : Nat), v7 = .int .i64 i ∧ v8 = .int .i64 j ∧ Aside0 (i + j + 1 = xs.length) ∧ i ≤ j + 1 ∧ i ≤ xs.length ∧ j < xs.length ∧ Aside0 (Turned xs ys i) ∧ Aside0 (Kd.R (Kd.int .u8) 5 w' w.heap.size (fun _ => True) (.slice (some ⟨g, 0, none⟩) xs.length c3) ys) ∧ Aside0 (Below w.heap.size w w')) (fun _ v8 _ => (intOf v8).toNat)
        case atStart => exact ⟨xs, 0, xs.length - 1, rfl, by go_num, ⟨by omega⟩, by omega, by omega, by omega, ⟨Turned.start xs⟩, HO, HB⟩
        case round =>
          clear HO HB
          obtain ⟨ys, i, j, rfl, rfl, HS, hij, hil, hjl, HT, HO, HB⟩ := hrel
          have hyl := HT.out.len
          by_cases hlt : i < j
          · obtain ⟨hx1, hf1⟩ := Kd.R_celln 0 HO.out (i : Int) (by omega) (by omega)
            obtain ⟨hx2, hf2⟩ := Kd.R_celln 0 HO.out (j : Int) (by omega) (by omega)
            have HP1 := Kd.R_putn HO.out (i : Int) (ys.getD j 0)
            have HP2 := Kd.R_putn HP1 (j : Int) (ys.getD i 0)
            have HT2 := HT.out.step (by have := HS.out; omega)
            rw [show xs.length - 1 - i = j by have := HS.out; omega] at HT2
            unfold rdOf at hx1 hx2
            simp only [Int.toNat_natCast] at hx1 hx2 hf1 hf2 HP2
            obtain ⟨x1, hx1'⟩ : ∃ x1, ys.getD i 0 = x1 := ⟨_, rfl⟩
            obtain ⟨x2, hx2'⟩ : ∃ x2, ys.getD j 0 = x2 := ⟨_, rfl⟩
            rw [hx1'] at hx1 HP2 HT2
            rw [hx2'] at hx2 HP2 HT2
            have HP3 := Aside0.mk HP2
            have HT3 := Aside0.mk HT2
            clear HP1 HP2 HT2 hx1' hx2' HT HO hyl
            go_wp2
            go_region
            go_wp2
            go_roundw
            case rel => exact ⟨_, i + 1, j - 1, by go_num, by go_num, ⟨by have := HS.out; omega⟩, by omega, by omega, by omega, HT3, ⟨Kd.R_drew HP3.out⟩, ⟨below_drew (below_set (below_set HB.out hgb) hgb)⟩⟩
            case measure => simp [intOf]; omega
          · have hd : ys = xs.reverse := HT.out.done (by have := HS.out; omega)
            have hcv := own_string (P := Tryd.prog) Tryd.underlying70 Tryd.underlying5 Tryd.underlying9 (Kd.own_of_R HO.out)
            have ht : strOfNums ys = text n := by
              unfold text
              rw [if_neg hn0, hd, HXn.out]
            rw [ht] at hcv
            clear hd ht
            go_wp2
            go_ret
            exact ⟨rfl, HB.out⟩

set_option maxHeartbeats 1000000 in
/-- How many digits a number has. -/
theorem natDigits_any (n : Nat) (v : Value) (w : World) (hv : IsNat w v n) (hn : (limbs n).length < 1000000000) :
    Calls Tryd.prog 13 #[v] w fun e w' => e = .returned (.int .i64 (decs n).length) ∧ Below w.heap.size w w' := by
  have hv0 := hv
  obtain ⟨A, c, rfl, hc, hr⟩ := hv
  have HR := Aside0.mk hv0
  clear hr hv0
  by_cases hn0 : n = 0
  · subst hn0
    rw [limbs_zero]
    go_enter Tryd.func13, Tryd.ntmps13
    go_wp2
    go_ret
    exact ⟨by rw [decs_zero]; rfl, Below.refl _ _⟩
  · have hp : 0 < (limbs n).length := by rw [limbs_pos (by omega)]; simp
    have hs := text_size n (by omega)
    have HS := Aside0.mk hs
    clear hs
    go_enter Tryd.func13, Tryd.ntmps13
    go_wp2_with (go_at_call 12; refine (natString_any n _ _ HR.out hn).mono ?_; rintro e w' ⟨rfl, hb⟩; have HB := Aside0.mk hb; clear hb)
    go_ret
    exact ⟨by rw [HS.out]; rfl, HB.out⟩
end Go.Proofs.YthkmgjkajllemaaDoor.Str

/- Natural numbers of the reference in memory: slices of limbs in blocks that the call has made. -/
namespace Go.Proofs.YthkmgjkajllemaaDoor.Nats
open Go.RowKit Go.Proofs.YthkmgjkajllemaaDoorW.PrintWords Go.Proofs.YthkmgjkajllemaaDoorW.PrintLast Go.Proofs.YthkmgjkajllemaaDoorW.PrintMore Go.Proofs.YthkmgjkajllemaaDoor.Num Go.Proofs.YthkmgjkajllemaaDoor.Str
set_option linter.unusedVariables false
set_option linter.unusedSimpArgs false

/-- A natural number in memory, in blocks from b on. -/
def IsNew (w : World) (b : Nat) (v : Value) (n : Nat) : Prop := Kd.V (Kd.int .u32) 69 w b (fun k => b ≤ k) v (limbs n)
theorem IsNew.below {w w1 : World} {b : Nat} {v : Value} {n : Nat} (h : IsNew w b v n) (hb : Below w.heap.size w w1) : IsNew w1 b v n := Kd.V_below h hb
theorem IsNew.lower {w : World} {b b' : Nat} {v : Value} {n : Nat} (h : IsNew w b v n) (hb : b' ≤ b) : IsNew w b' v n := Kd.V_mono (Kd.V_lower h hb) (fun k hk => Nat.le_trans hb hk)
theorem IsNew.set {w : World} {b : Nat} {v : Value} {n : Nat} (h : IsNew w b v n) {p : Addr} (hp : p.block < b) (u : Value) : IsNew (w.setCell p u) b v n :=
  Kd.V_far h (fun k hk e => by have : b ≤ k := hk; omega) u
theorem IsNew.drew {w : World} {b : Nat} {v : Value} {n : Nat} (h : IsNew w b v n) : IsNew w.drew b v n := Kd.V_drew h
theorem IsNew.alloc {w : World} {b : Nat} {v : Value} {n : Nat} (h : IsNew w b v n) (o : Obj) : IsNew (w.alloc o) b v n := Kd.V_alloc h o
theorem IsNew.slice {w : World} {b : Nat} {v : Value} {n : Nat} (h : IsNew w b v n) : ∃ A c, v = .slice A (limbs n).length c := Kd.V_slice h
theorem IsNew.isNat {w : World} {b : Nat} {v : Value} {n : Nat} (h : IsNew w b v n) : IsNat w v n := by
  obtain ⟨A, c, rfl⟩ := Kd.V_slice h
  obtain ⟨_, hc, hr⟩ := Kd.V_reads' h
  exact ⟨A, c, rfl, hc, hr⟩
theorem V_of_R {α : Type} {d : Kd α} {e base : Nat} {ok : Nat → Prop} {w : World} {v : Value} {xs : List α} (h : d.R e w base ok v xs) : Kd.V d e w base (fun k => base ≤ k) v xs := by
  obtain ⟨A, c, rfl, hl, _⟩ := Kd.R_reads h
  refine ⟨A, c, rfl, hl, fun W' hW => ?_⟩
  have h1 := Kd.R_mono (Kd.R_bound h) (ok' := fun k => base ≤ k) (fun k hk => hk.2.1)
  have h2 : d.R e W' base (fun k => base ≤ k) (.slice A xs.length c) xs := Kd.R_step h1 (fun k hk hlt => hW k hk hlt)
  obtain ⟨A', c', e', _, hr⟩ := Kd.R_reads h2
  injection e' with ha _ _
  rw [ha]
  exact hr

/-- NatFrom, in blocks of its own. -/
theorem natFrom_new (x : Nat) (w : World) (h : x < 18446744073709551616) :
    Calls Tryd.prog 11 #[.int .u64 x] w fun e w' => ∃ v, e = .returned v ∧ IsNew w' w.heap.size v x ∧ Below w.heap.size w w' := by
  have e : PNatFrom.spec_NatFrom.f 4 (x : Int) = some (limbs x) := by
    unfold PNatFrom.spec_NatFrom.f
    rw [natFrom_go 3 4 x [] (by omega) (by omega) h (by simp)]
    rfl
  refine (PNatFrom.spec_NatFrom.calls 4 x _ w e).mono ?_
  rintro e w' ⟨v, rfl, hr, hb⟩
  exact ⟨v, rfl, V_of_R hr, hb⟩
end Go.Proofs.YthkmgjkajllemaaDoor.Nats

/- The reference's functions on natural numbers, as contracts on numbers. -/
namespace Go.Proofs.YthkmgjkajllemaaDoor.NatOps
open Go.RowKit Go.Proofs.YthkmgjkajllemaaDoorW.PrintWords Go.Proofs.YthkmgjkajllemaaDoorW.PrintLast Go.Proofs.YthkmgjkajllemaaDoorW.PrintMore Go.Proofs.YthkmgjkajllemaaDoor.Num Go.Proofs.YthkmgjkajllemaaDoor.Str Go.Proofs.YthkmgjkajllemaaDoor.Nats Go.Proofs.YthkmgjkajllemaaDoor.Val Go.Proofs.YthkmgjkajllemaaDoor.Arith
set_option linter.unusedVariables false
set_option linter.unusedSimpArgs false

/-- NatMul: the product. -/
theorem natMul_any (u v : Value) (m n : Nat) (w : World) (hu : IsNat w u m) (hv : IsNat w v n) (hm : (limbs m).length < 1000000) (hn : (limbs n).length < 1000000) :
    Calls Tryd.prog 56 #[u, v] w fun e w' => ∃ r, e = .returned r ∧ IsNew w' w.heap.size r (m * n) ∧ Below w.heap.size w w' := by
  obtain ⟨A, c, rfl, hc, hr⟩ := hu
  obtain ⟨A', c', rfl, hc', hr'⟩ := hv
  obtain ⟨k, hk⟩ := natMul_f m n hm hn
  refine (PNatMul.spec_NatMul.calls k A c _ A' c' _ _ w hr hc hr' hc' hk).mono ?_
  rintro e w' ⟨r, rfl, h1, h2⟩
  exact ⟨r, rfl, h1, h2⟩
/-- Pow10: a power of ten. -/
theorem pow10_any (n : Nat) (w : World) (hn : n < 1000000) :
    Calls Tryd.prog 57 #[.int .i64 n] w fun e w' => ∃ r, e = .returned r ∧ IsNew w' w.heap.size r (10 ^ n) ∧ Below w.heap.size w w' := by
  obtain ⟨k, hk⟩ := pow10_f n hn
  refine (PPow10.spec_Pow10.calls k _ _ w hk).mono ?_
  rintro e w' ⟨r, rfl, h1, h2⟩
  exact ⟨r, rfl, V_of_R h1, h2⟩
/-- NatCmp: how two numbers compare. -/
theorem natCmp_any (u v : Value) (m n : Nat) (w : World) (hu : IsNat w u m) (hv : IsNat w v n) (hm : (limbs m).length < 1000000) (hn : (limbs n).length < 1000000) :
    Calls Tryd.prog 60 #[u, v] w fun e w' => e = .returned (.int .i64 (cmp m n)) ∧ Below w.heap.size w w' := by
  obtain ⟨A, c, rfl, hc, hr⟩ := hu
  obtain ⟨A', c', rfl, hc', hr'⟩ := hv
  obtain ⟨k, hk⟩ := natCmp_f m n hm hn
  refine (PNatCmp.spec_NatCmp.calls k A c _ A' c' _ _ w hr hc hr' hc' hk).mono ?_
  rintro e w' ⟨rfl, h2⟩
  exact ⟨rfl, h2.below⟩
/-- natShort: quotient and remainder by one limb. -/
theorem natShort_any (u : Value) (m b : Nat) (w : World) (hu : IsNat w u m) (hm : (limbs m).length < 1000000) (hb : 0 < b) (hb1 : b < 1000000000) :
    Calls Tryd.prog 87 #[u, .int .u32 b] w fun e w' => ∃ r, e = .returned (.tuple #[r, .int .u32 ((m % b : Nat) : Int)]) ∧ IsNew w' w.heap.size r (m / b) ∧ Below w.heap.size w w' := by
  obtain ⟨A, c, rfl, hc, hr⟩ := hu
  obtain ⟨k, hk⟩ := natShort_f m b hb hb1 hm
  refine (PnatShort.spec_natShort.calls k A c _ _ _ _ w hr hc hk).mono ?_
  rintro e w' ⟨r, rfl, h1, h2⟩
  exact ⟨r, rfl, h1, h2⟩

theorem info69 : (Tryd.prog.info? 69).map (fun i => (i.zero, i.size, i.bytes)) = some (some (.int .u32 0), 1, 4) := by kernel_rfl

set_option maxHeartbeats 4000000 in
set_option maxRecDepth 100000 in
/-- NatAdd: the sum. -/
theorem natAdd_any (u v : Value) (m n : Nat) (w : World) (hu : IsNat w u m) (hv : IsNat w v n) (hm : (limbs m).length < 1000000) (hn : (limbs n).length < 1000000) :
    Calls Tryd.prog 61 #[u, v] w fun e w' => ∃ r, e = .returned r ∧ IsNew w' w.heap.size r (m + n) ∧ Below w.heap.size w w' := by
  obtain ⟨A, c, rfl, hc, hr⟩ := hu
  obtain ⟨A', c', rfl, hc', hr'⟩ := hv
  have HR := Aside0.mk hr
  have HR' := Aside0.mk hr'
  have HB := Aside0.mk (Below.refl w.heap.size w)
  have hmn : (limbs m).length ≤ (limbs m).length + (limbs n).length := by omega
  clear hr hr' hc hc'
  go_enter Tryd.func61, Tryd.ntmps61
  go_wp2
  go_loopw [5, 6, 7] (fun v5 v6 v7 w' => ∃ (out : List Int) (i q : Nat), v6 = .int .u32 q ∧ v7 = .int .i64 i ∧ q ≤ 1 ∧ Aside0 (out ++ limbs (rest m i + rest n i + q) = limbs (m + n)) ∧ Aside0 (out.length = i) ∧ i ≤ (limbs m).length + (limbs n).length + 1 ∧ Aside0 ((limbs m).length + (limbs n).length < i → q = 0) ∧ Aside0 (Kd.R (Kd.int .u32) 69 w' w.heap.size (fun _ => True) v5 out) ∧ Aside0 (Below w.heap.size w w')) (fun _ _ v7 _ => (limbs m).length + (limbs n).length + 1 - (intOf v7).toNat)
  case atStart => exact ⟨[], 0, 0, rfl, rfl, by omega, ⟨by rw [rest_zero, rest_zero]; rfl⟩, ⟨rfl⟩, by omega, ⟨fun h => by omega⟩, ⟨Kd.R_nil _ _ _ _ _⟩, HB⟩
  case round =>
    clear HB
    obtain ⟨out, i, q, rfl, rfl, hq, HX, HL, hi, HZ, HO, HB⟩ := hrel
    have hl : out.length < 10000000 := by have := HL.out; omega
    have hsm := rest_step m i
    have hsn := rest_step n i
    have hpm := rest_pos m i
    have hpn := rest_pos n i
    have hpm1 := rest_pos m (i + 1)
    have hpn1 := rest_pos n (i + 1)
    obtain ⟨x, hx⟩ : ∃ x, rest m i % 1000000000 = x := ⟨_, rfl⟩
    obtain ⟨y, hy⟩ : ∃ y, rest n i % 1000000000 = y := ⟨_, rfl⟩
    have hxl : x < 1000000000 := by omega
    have hyl : y < 1000000000 := by omega
    rw [hx] at hsm
    rw [hy] at hsn
    by_cases hmore : i < (limbs m).length ∨ i < (limbs n).length ∨ 0 < q
    · have hT : 0 < rest m i + rest n i + q := by omega
      have hi1 : i + 1 ≤ (limbs m).length + (limbs n).length + 1 := by
        rcases hmore with h | h | h
        · omega
        · omega
        · have := HZ.out; omega
      have hZ1 : Aside0 ((limbs m).length + (limbs n).length < i + 1 → (q + x + y) / 1000000000 = 0) := ⟨fun h => by
        have h1 : rest m i = 0 := by omega
        have h2 : rest n i = 0 := by omega
        omega⟩
      have HX1 : Aside0 ((out ++ [(((q + x + y) % 1000000000 : Nat) : Int)]) ++ limbs (rest m (i + 1) + rest n (i + 1) + (q + x + y) / 1000000000) = limbs (m + n)) := ⟨by
        rw [← HX.out, limbs_pos hT, show (rest m i + rest n i + q) % 1000000000 = (q + x + y) % 1000000000 by omega, show (rest m i + rest n i + q) / 1000000000 = rest m (i + 1) + rest n (i + 1) + (q + x + y) / 1000000000 by omega]
        simp⟩
      have HL1 : Aside0 ((out ++ [(((q + x + y) % 1000000000 : Nat) : Int)]).length = i + 1) := ⟨by rw [List.length_append, HL.out]; rfl⟩
      clear hsm hsn hpm1 hpn1 hT HX HL HZ
      by_cases hA : i < (limbs m).length
      · obtain ⟨ad, e0, hc0⟩ := Kd.at_int HR.out (i : Int) (by omega) (by omega)
        have hc1 := (HB.out.cell (World.block_lt_of_cell? w _ hc0)).trans hc0
        unfold rd at hc1
        rw [Int.toNat_natCast, limbs_getD, hx] at hc1
        subst e0
        have hAd : decide ((i : Int) < ((limbs m).length : Int)) = true := decide_eq_true (by omega)
        clear hc0 hx
        by_cases hB : i < (limbs n).length
        · obtain ⟨ad', e0, hc0⟩ := Kd.at_int HR'.out (i : Int) (by omega) (by omega)
          have hc2 := (HB.out.cell (World.block_lt_of_cell? w _ hc0)).trans hc0
          unfold rd at hc2
          rw [Int.toNat_natCast, limbs_getD, hy] at hc2
          subst e0
          have hBd : decide ((i : Int) < ((limbs n).length : Int)) = true := decide_eq_true (by omega)
          clear hc0 hy hpm hpn hmore
          go_wp2_with (first | ((with_reducible refine gate_builtin (b := .append) (xs := #[.tmp 44, .tmp 47]) rfl ?_); at_builtin; go_must (refine Kd.R_append (Kd.int .u32) (w0 := w) w.heap.size rfl (.tmp 44) (.tmp 47) 25 69 (.int .u32 0) 4 rfl Tryd.underlying25 info69 rfl (by decide) (by omega) u5 out (((q : Int) + x + y) % 1000000000) [.int .u32 (((q : Int) + x + y) % 1000000000)] (fun _ => True) (fun _ => False) rfl rfl rfl (fun _ hk => hk.elim) (fun _ _ => trivial) HO.out HB.out HB.out.size (by omega) ?_); intro v1 w1 ho hb hg hat; have HO1 := Aside0.mk ho; have HB1 := Aside0.mk hb; clear ho hb hg hat HO HB))
          go_roundw
          case rel => exact ⟨_, i + 1, (q + x + y) / 1000000000, by go_num, by go_num, by omega, HX1, HL1, hi1, hZ1, by first | exact HO1 | simpa using HO1, HB1⟩
          case measure => simp [intOf]; omega
        · have hBd : decide ((i : Int) < ((limbs n).length : Int)) = false := decide_eq_false (by omega)
          obtain rfl : y = 0 := by omega
          clear hy hpm hpn hmore
          go_wp2_with (first | ((with_reducible refine gate_builtin (b := .append) (xs := #[.tmp 44, .tmp 47]) rfl ?_); at_builtin; go_must (refine Kd.R_append (Kd.int .u32) (w0 := w) w.heap.size rfl (.tmp 44) (.tmp 47) 25 69 (.int .u32 0) 4 rfl Tryd.underlying25 info69 rfl (by decide) (by omega) u5 out (((q : Int) + x) % 1000000000) [.int .u32 (((q : Int) + x) % 1000000000)] (fun _ => True) (fun _ => False) rfl rfl rfl (fun _ hk => hk.elim) (fun _ _ => trivial) HO.out HB.out HB.out.size (by omega) ?_); intro v1 w1 ho hb hg hat; have HO1 := Aside0.mk ho; have HB1 := Aside0.mk hb; clear ho hb hg hat HO HB))
          go_roundw
          case rel => exact ⟨_, i + 1, (q + x + 0) / 1000000000, by go_num, by go_num, by omega, HX1, HL1, hi1, hZ1, by first | exact HO1 | simpa using HO1, HB1⟩
          case measure => simp [intOf]; omega
      · have hAd : decide ((i : Int) < ((limbs m).length : Int)) = false := decide_eq_false (by omega)
        obtain rfl : x = 0 := by omega
        by_cases hB : i < (limbs n).length
        · obtain ⟨ad', e0, hc0⟩ := Kd.at_int HR'.out (i : Int) (by omega) (by omega)
          have hc2 := (HB.out.cell (World.block_lt_of_cell? w _ hc0)).trans hc0
          unfold rd at hc2
          rw [Int.toNat_natCast, limbs_getD, hy] at hc2
          subst e0
          have hBd : decide ((i : Int) < ((limbs n).length : Int)) = true := decide_eq_true (by omega)
          clear hc0 hy hx hpm hpn hmore
          go_wp2_with (first | ((with_reducible refine gate_builtin (b := .append) (xs := #[.tmp 44, .tmp 47]) rfl ?_); at_builtin; go_must (refine Kd.R_append (Kd.int .u32) (w0 := w) w.heap.size rfl (.tmp 44) (.tmp 47) 25 69 (.int .u32 0) 4 rfl Tryd.underlying25 info69 rfl (by decide) (by omega) u5 out (((q : Int) + y) % 1000000000) [.int .u32 (((q : Int) + y) % 1000000000)] (fun _ => True) (fun _ => False) rfl rfl rfl (fun _ hk => hk.elim) (fun _ _ => trivial) HO.out HB.out HB.out.size (by omega) ?_); intro v1 w1 ho hb hg hat; have HO1 := Aside0.mk ho; have HB1 := Aside0.mk hb; clear ho hb hg hat HO HB))
          go_roundw
          case rel => exact ⟨_, i + 1, (q + 0 + y) / 1000000000, by go_num, by go_num, by omega, HX1, HL1, hi1, hZ1, by first | exact HO1 | simpa using HO1, HB1⟩
          case measure => simp [intOf]; omega
        · have hBd : decide ((i : Int) < ((limbs n).length : Int)) = false := decide_eq_false (by omega)
          obtain rfl : y = 0 := by omega
          obtain rfl : q = 1 := by omega
          clear hy hx hpm hpn hmore
          go_wp2_with (first | ((with_reducible refine gate_builtin (b := .append) (xs := #[.tmp 44, .tmp 47]) rfl ?_); at_builtin; go_must (refine Kd.R_append (Kd.int .u32) (w0 := w) w.heap.size rfl (.tmp 44) (.tmp 47) 25 69 (.int .u32 0) 4 rfl Tryd.underlying25 info69 rfl (by decide) (by omega) u5 out (1) [.int .u32 (1)] (fun _ => True) (fun _ => False) rfl rfl rfl (fun _ hk => hk.elim) (fun _ _ => trivial) HO.out HB.out HB.out.size (by omega) ?_); intro v1 w1 ho hb hg hat; have HO1 := Aside0.mk ho; have HB1 := Aside0.mk hb; clear ho hb hg hat HO HB))
          go_roundw
          case rel => exact ⟨_, i + 1, 0, by go_num, by go_num, by omega, HX1, HL1, hi1, hZ1, by first | exact HO1 | simpa using HO1, HB1⟩
          case measure => simp [intOf]; omega
    · obtain rfl : q = 0 := by omega
      have h1 : rest m i = 0 := by omega
      have h2 : rest n i = 0 := by omega
      have HE : Aside0 (out = limbs (m + n)) := ⟨by rw [← HX.out, h1, h2, limbs_zero]; simp⟩
      have hA : ¬ i < (limbs m).length := by omega
      have hB : ¬ i < (limbs n).length := by omega
      clear hsm hsn hpm hpn hpm1 hpn1 hx hy hxl hyl h1 h2 hmore HX HL HZ
      go_wp2
      go_ret
      exact ⟨_, rfl, V_of_R (by rw [← HE.out]; exact HO.out), HB.out⟩
end Go.Proofs.YthkmgjkajllemaaDoor.NatOps

/- NatSub: the difference of two numbers, and natTrim. -/
namespace Go.Proofs.YthkmgjkajllemaaDoor.NatOps
open Go.RowKit Go.Proofs.YthkmgjkajllemaaDoorW.PrintWords Go.Proofs.YthkmgjkajllemaaDoorW.PrintLast Go.Proofs.YthkmgjkajllemaaDoorW.PrintMore Go.Proofs.YthkmgjkajllemaaDoor.Num Go.Proofs.YthkmgjkajllemaaDoor.Str Go.Proofs.YthkmgjkajllemaaDoor.Nats Go.Proofs.YthkmgjkajllemaaDoor.Val Go.Proofs.YthkmgjkajllemaaDoor.Arith
set_option linter.unusedVariables false
set_option linter.unusedSimpArgs false

/-- natTrim: a list of limbs without the zeros at its end. -/
theorem natTrim_any (b : Nat) (u : Value) (l : List Int) (w : World) (hu : Kd.V (Kd.int .u32) 69 w b (fun k => b ≤ k) u l) (hd : Digs l) (hl : l.length < 1000000000) (hb : b ≤ w.heap.size) :
    Calls Tryd.prog 86 #[u] w fun e w' => ∃ r, e = .returned r ∧ IsNew w' b r (val l).toNat ∧ Below w.heap.size w w' := by
  obtain ⟨A, c, rfl, hc, hr⟩ := hu
  have h := natTrim_go l.length l (l.length + 1) rfl hd (by omega) (by omega)
  refine (PNatMul.spec_natTrim.calls (l.length + 1) (fun k => b ≤ k) A c l _ w ⟨A, c, rfl, hc, hr⟩ h).mono ?_
  rintro e w' ⟨r, rfl, h1, h2⟩
  refine ⟨r, rfl, ?_, h2⟩
  exact Kd.V_mono (Kd.V_lower h1 hb) (fun k hk => hk.elim id (fun h => Nat.le_trans hb h))

/-- How far the difference has come. -/
structure Sub (m n i q : Nat) (out : List Int) : Prop where
  len : out.length = i
  digs : Digs out
  worth : val out + (1000000000 : Int) ^ i * ((rest m i : Int) - rest n i - q) = (m : Int) - n
theorem Sub.step {m n i q : Nat} {out : List Int} (h : Sub m n i q out) (x y d q' : Nat) (hx : rest m i % 1000000000 = x) (hy : rest n i % 1000000000 = y) (hd : (d : Int) = (x : Int) - y - q + 1000000000 * q') (hl : d < 1000000000) :
    Sub m n (i + 1) q' (out ++ [(d : Int)]) := by
  have hsm := rest_step m i
  have hsn := rest_step n i
  rw [hx] at hsm
  rw [hy] at hsn
  refine ⟨by rw [List.length_append, h.len]; rfl, h.digs.append (Digs.one (by omega) (by show _ < (1000000000 : Int); omega)), ?_⟩
  have hw := h.worth
  rw [val_append, h.len, Int.pow_succ]
  rw [hsm, hsn] at hw
  simp only [val, Int.natCast_add, Int.natCast_mul] at hw ⊢
  generalize (1000000000 : Int) ^ i = P at *
  generalize (rest m (i + 1) : Int) = M at *
  generalize (rest n (i + 1) : Int) = N at *
  rw [hd]
  rw [← hw]
  have e : ((1000000000 : Nat) : Int) = 1000000000 := rfl
  rw [e]
  grind
theorem Sub.done {m n q : Nat} {out : List Int} (h : Sub m n (limbs m).length q out) (hmn : n ≤ m) : (val out).toNat = m - n := by
  have hw := h.worth
  have h1 : rest n (limbs m).length = 0 := by
    rcases Nat.eq_zero_or_pos (rest n (limbs m).length) with h2 | h2
    · exact h2
    · exact absurd (limbs_len_lt m n ((rest_pos n _).2 h2)) (by omega)
  rw [rest_done, h1] at hw
  have hlt := val_lt h.digs
  rw [h.len] at hlt
  have hn := val_nonneg h.digs
  rcases Nat.eq_zero_or_pos q with h2 | h2
  · subst h2
    simp at hw
    omega
  · have hp := pow_pos (limbs m).length
    have : (1000000000 : Int) ^ (limbs m).length * 1 ≤ (1000000000 : Int) ^ (limbs m).length * q := Int.mul_le_mul_of_nonneg_left (by omega) (by omega)
    have e : ((0 : Nat) : Int) - ((0 : Nat) : Int) - (q : Int) = -(q : Int) := by omega
    rw [e, Int.mul_neg] at hw
    omega

set_option maxHeartbeats 4000000 in
set_option maxRecDepth 100000 in
/-- NatSub: the difference. -/
theorem natSub_any (u v : Value) (m n : Nat) (w : World) (hu : IsNat w u m) (hv : IsNat w v n) (hm : (limbs m).length < 1000000) (hmn : n ≤ m) :
    Calls Tryd.prog 67 #[u, v] w fun e w' => ∃ r, e = .returned r ∧ IsNew w' w.heap.size r (m - n) ∧ Below w.heap.size w w' := by
  have hn : (limbs n).length ≤ (limbs m).length := by
    rcases Nat.lt_or_ge (limbs m).length (limbs n).length with h | h
    · exact absurd (limbs_len_lt m n h) (by omega)
    · exact h
  obtain ⟨A, c, rfl, hc, hr⟩ := hu
  obtain ⟨A', c', rfl, hc', hr'⟩ := hv
  have HR := Aside0.mk hr
  have HR' := Aside0.mk hr'
  have HB := Aside0.mk (Below.refl w.heap.size w)
  have HMN := Aside0.mk hmn
  clear hr hr' hc hc' hmn
  go_enter Tryd.func67, Tryd.ntmps67
  go_wp2
  go_loopw [5, 6, 12] (fun v5 v6 v12 w' => ∃ (out : List Int) (i q : Nat), v6 = .int .u32 q ∧ v12 = .int .i64 i ∧ q ≤ 1 ∧ Aside0 (Sub m n i q out) ∧ i ≤ (limbs m).length ∧ Aside0 (Kd.R (Kd.int .u32) 69 w' w.heap.size (fun _ => True) v5 out) ∧ Aside0 (Below w.heap.size w w')) (fun _ _ v12 _ => (limbs m).length - (intOf v12).toNat)
  case atStart => exact ⟨[], 0, 0, rfl, rfl, by omega, ⟨⟨rfl, Digs.nil, by rw [rest_zero, rest_zero]; simp [val]⟩⟩, by omega, ⟨Kd.R_nil _ _ _ _ _⟩, HB⟩
  case round =>
    clear HB
    obtain ⟨out, i, q, rfl, rfl, hq, HS, hi, HO, HB⟩ := hrel
    have hl : out.length < 10000000 := by have := HS.out.len; omega
    obtain ⟨x, hx⟩ : ∃ x, rest m i % 1000000000 = x := ⟨_, rfl⟩
    obtain ⟨y, hy⟩ : ∃ y, rest n i % 1000000000 = y := ⟨_, rfl⟩
    have hxl : x < 1000000000 := by omega
    have hyl : y < 1000000000 := by omega
    have hpn := rest_pos n i
    by_cases hA : i < (limbs m).length
    · obtain ⟨ad, e0, hc0⟩ := Kd.at_int HR.out (i : Int) (by omega) (by omega)
      have hc1 := (HB.out.cell (World.block_lt_of_cell? w _ hc0)).trans hc0
      unfold rd at hc1
      rw [Int.toNat_natCast, limbs_getD, hx] at hc1
      subst e0
      clear hc0
      have HST := Aside0.mk (fun d q' h1 h2 => HS.out.step x y d q' hx hy h1 h2)
      by_cases hB : i < (limbs n).length
      · obtain ⟨ad', e0, hc0⟩ := Kd.at_int HR'.out (i : Int) (by omega) (by omega)
        have hc2 := (HB.out.cell (World.block_lt_of_cell? w _ hc0)).trans hc0
        unfold rd at hc2
        rw [Int.toNat_natCast, limbs_getD, hy] at hc2
        subst e0
        clear hc0 hy hx hpn HS
        by_cases hlt : x < q + y
        · have hltb : decide ((x : Int) < (q : Int) + y) = true := decide_eq_true (by omega)
          obtain ⟨d, hd⟩ : ∃ d : Nat, (d : Int) = (x : Int) + 1000000000 - ((q : Int) + y) := ⟨x + 1000000000 - (q + y), by omega⟩
          have HN := Aside0.mk (HST.out d 1 (by omega) (by omega))
          have hdl : d < 1000000000 := by omega
          have HD := Aside0.mk hd
          clear HST hd
          go_wp2_with (first | ((with_reducible refine gate_builtin (b := .append) (xs := #[.tmp 33, .tmp 37]) rfl ?_); at_builtin; go_must (refine Kd.R_append (Kd.int .u32) (w0 := w) w.heap.size rfl (.tmp 33) (.tmp 37) 25 69 (.int .u32 0) 4 rfl Tryd.underlying25 info69 rfl (by decide) (by omega) u5 out ((x : Int) + 1000000000 - ((q : Int) + y)) [.int .u32 ((x : Int) + 1000000000 - ((q : Int) + y))] (fun _ => True) (fun _ => False) rfl rfl rfl (fun _ hk => hk.elim) (fun _ _ => trivial) HO.out HB.out HB.out.size (by omega) ?_); intro v1 w1 ho hb hg hat; have HO1 := Aside0.mk ho; have HB1 := Aside0.mk hb; clear ho hb hg hat HO HB))
          go_roundw
          case rel => exact ⟨_, i + 1, 1, by go_num, by go_num, by omega, HN, by omega, by first | exact HO1 | (rw [HD.out]; exact HO1), HB1⟩
          case measure => simp [intOf]; omega
        · have hltb : decide ((x : Int) < (q : Int) + y) = false := decide_eq_false (by omega)
          obtain ⟨d, hd⟩ : ∃ d : Nat, (d : Int) = (x : Int) - ((q : Int) + y) := ⟨x - (q + y), by omega⟩
          have HN := Aside0.mk (HST.out d 0 (by omega) (by omega))
          have hdl : d < 1000000000 := by omega
          have HD := Aside0.mk hd
          clear HST hd
          go_wp2_with (first | ((with_reducible refine gate_builtin (b := .append) (xs := #[.tmp 33, .tmp 37]) rfl ?_); at_builtin; go_must (refine Kd.R_append (Kd.int .u32) (w0 := w) w.heap.size rfl (.tmp 33) (.tmp 37) 25 69 (.int .u32 0) 4 rfl Tryd.underlying25 info69 rfl (by decide) (by omega) u5 out ((x : Int) - ((q : Int) + y)) [.int .u32 ((x : Int) - ((q : Int) + y))] (fun _ => True) (fun _ => False) rfl rfl rfl (fun _ hk => hk.elim) (fun _ _ => trivial) HO.out HB.out HB.out.size (by omega) ?_); intro v1 w1 ho hb hg hat; have HO1 := Aside0.mk ho; have HB1 := Aside0.mk hb; clear ho hb hg hat HO HB))
          go_roundw
          case rel => exact ⟨_, i + 1, 0, by go_num, by go_num, by omega, HN, by omega, by first | exact HO1 | (rw [HD.out]; exact HO1), HB1⟩
          case measure => simp [intOf]; omega
      · obtain rfl : y = 0 := by omega
        clear hy hx hpn HS
        by_cases hlt : x < q
        · have hltb : decide ((x : Int) < (q : Int)) = true := decide_eq_true (by omega)
          obtain ⟨d, hd⟩ : ∃ d : Nat, (d : Int) = (x : Int) + 1000000000 - (q : Int) := ⟨x + 1000000000 - q, by omega⟩
          have HN := Aside0.mk (HST.out d 1 (by omega) (by omega))
          have hdl : d < 1000000000 := by omega
          have HD := Aside0.mk hd
          clear HST hd
          go_wp2_with (first | ((with_reducible refine gate_builtin (b := .append) (xs := #[.tmp 33, .tmp 37]) rfl ?_); at_builtin; go_must (refine Kd.R_append (Kd.int .u32) (w0 := w) w.heap.size rfl (.tmp 33) (.tmp 37) 25 69 (.int .u32 0) 4 rfl Tryd.underlying25 info69 rfl (by decide) (by omega) u5 out ((x : Int) + 1000000000 - (q : Int)) [.int .u32 ((x : Int) + 1000000000 - (q : Int))] (fun _ => True) (fun _ => False) rfl rfl rfl (fun _ hk => hk.elim) (fun _ _ => trivial) HO.out HB.out HB.out.size (by omega) ?_); intro v1 w1 ho hb hg hat; have HO1 := Aside0.mk ho; have HB1 := Aside0.mk hb; clear ho hb hg hat HO HB))
          go_roundw
          case rel => exact ⟨_, i + 1, 1, by go_num, by go_num, by omega, HN, by omega, by first | exact HO1 | (rw [HD.out]; exact HO1), HB1⟩
          case measure => simp [intOf]; omega
        · have hltb : decide ((x : Int) < (q : Int)) = false := decide_eq_false (by omega)
          obtain ⟨d, hd⟩ : ∃ d : Nat, (d : Int) = (x : Int) - (q : Int) := ⟨x - q, by omega⟩
          have HN := Aside0.mk (HST.out d 0 (by omega) (by omega))
          have hdl : d < 1000000000 := by omega
          have HD := Aside0.mk hd
          clear HST hd
          go_wp2_with (first | ((with_reducible refine gate_builtin (b := .append) (xs := #[.tmp 33, .tmp 37]) rfl ?_); at_builtin; go_must (refine Kd.R_append (Kd.int .u32) (w0 := w) w.heap.size rfl (.tmp 33) (.tmp 37) 25 69 (.int .u32 0) 4 rfl Tryd.underlying25 info69 rfl (by decide) (by omega) u5 out ((x : Int) - (q : Int)) [.int .u32 ((x : Int) - (q : Int))] (fun _ => True) (fun _ => False) rfl rfl rfl (fun _ hk => hk.elim) (fun _ _ => trivial) HO.out HB.out HB.out.size (by omega) ?_); intro v1 w1 ho hb hg hat; have HO1 := Aside0.mk ho; have HB1 := Aside0.mk hb; clear ho hb hg hat HO HB))
          go_roundw
          case rel => exact ⟨_, i + 1, 0, by go_num, by go_num, by omega, HN, by omega, by first | exact HO1 | (rw [HD.out]; exact HO1), HB1⟩
          case measure => simp [intOf]; omega
    · obtain rfl : i = (limbs m).length := by omega
      have HD := Aside0.mk (HS.out.done HMN.out)
      have HT := Aside0.mk (natTrim_any w.heap.size u5 out wr (V_of_R HO.out) HS.out.digs (by omega) HB.out.size)
      obtain ⟨A5, c5, rfl⟩ := Kd.R_slice HO.out
      clear hx hy hpn
      go_wp2_with (first | (go_at_call 86; go_must (refine HT.out.mono ?_); rintro e w2 ⟨r, rfl, hn2, hb⟩; have HN := Aside0.mk hn2; have HB2 := Aside0.mk (HB.out.trans (hb.mono HB.out.size)); clear hn2 hb))
      go_ret
      exact ⟨_, rfl, by rw [← HD.out]; exact HN.out, HB2.out⟩
end Go.Proofs.YthkmgjkajllemaaDoor.NatOps

/- NatDiv: quotient and remainder of two numbers. -/
namespace Go.Proofs.YthkmgjkajllemaaDoor.NatOps
open Go.RowKit Go.Proofs.YthkmgjkajllemaaDoorW.PrintWords Go.Proofs.YthkmgjkajllemaaDoorW.PrintLast Go.Proofs.YthkmgjkajllemaaDoorW.PrintMore Go.Proofs.YthkmgjkajllemaaDoor.Num Go.Proofs.YthkmgjkajllemaaDoor.Str Go.Proofs.YthkmgjkajllemaaDoor.Nats Go.Proofs.YthkmgjkajllemaaDoor.Val Go.Proofs.YthkmgjkajllemaaDoor.Arith
set_option linter.unusedVariables false
set_option linter.unusedSimpArgs false

theorem limbs_one (n : Nat) (h : 0 < n) (h1 : n < 1000000000) : limbs n = [(n : Int)] := by
  rw [limbs_pos h, show n / 1000000000 = 0 by omega, limbs_zero, show n % 1000000000 = n by omega]

set_option maxHeartbeats 2000000 in
theorem natDiv_less (u v : Value) (m n : Nat) (w : World) (hu : IsNat w u m) (hv : IsNat w v n) (hm : (limbs m).length < 1000000) (hn : (limbs n).length < 1000000) (hlt : m < n) :
    Calls Tryd.prog 58 #[u, v] w fun e w' => ∃ q r, e = .returned (.tuple #[q, r]) ∧ IsNew w' w.heap.size q (m / n) ∧ IsNew w' w.heap.size r (m % n) ∧ Below w.heap.size w w' := by
  have HC := Aside0.mk (natCmp_any u v m n w hu hv hm hn)
  have hc : cmp m n = -1 := by unfold cmp; rw [if_pos hlt]
  rw [hc] at HC
  rw [Nat.div_eq_of_lt hlt, Nat.mod_eq_of_lt hlt]
  obtain ⟨A, c, rfl, hc, hr⟩ := hu
  obtain ⟨A', c', rfl, hc', hr'⟩ := hv
  have HR := Aside0.mk hr
  clear hr hr' hc hc' hlt
  go_enter Tryd.func58, Tryd.ntmps58
  go_wp2_with (first | (go_at_call 60; go_must (refine HC.out.mono ?_); rintro e w1 ⟨rfl, hb⟩; have HB := Aside0.mk hb; have HR1 := Aside0.mk (Kd.C_below HR.out hb); clear hb) | ((with_reducible refine gate_dst (N := 18) rfl ?_); go_must (refine Kd.R_lit (w0 := w) (Kd.int .u32) w.heap.size 69 rfl (N := 18) rfl (xs := ([] : List Int)) (inner := []) (ok := fun _ => True) (okp := fun _ => True) (by first | (go_simp; done) | (go_simp; rfl)) (Reps.none _ _) (fun _ hk => hk) trivial HB.out HB.out.size (by simp) ?_); intro v5 w2 ho hb hg hn; have HO := Aside0.mk ho; have HB2 := Aside0.mk hb; have HR2 := Aside0.mk (Kd.C_below HR1.out ((Below.refl _ _).grown hg (Nat.le_refl _) (fun k h => by cases h))); clear ho hb hg hn) | ((with_reducible refine gate_builtin (b := .append) (xs := #[.tmp 18, .tmp 19]) rfl ?_); at_builtin; go_must (refine Kd.R_append_rows (Kd.int .u32) (Rr := (Kd.int .u32).K w1) (w0 := w) w.heap.size rfl (.tmp 18) (.tmp 19) 25 69 (.int .u32 0) 4 rfl Tryd.underlying25 info69 rfl (by decide) (by omega) v5 [] (limbs m) A (limbs m).length c (fun _ => True) (fun _ => False) rfl rfl HO.out HR2.out (fun _ _ h => h) (fun _ hk => hk.elim) (fun _ _ => trivial) HB2.out HB2.out.size (by simp; omega) ?_); intro v6 w3 ho hb hg hat; obtain ⟨A6, c6, rfl⟩ := Kd.R_slice ho; have HO3 := Aside0.mk ho; have HB3 := Aside0.mk hb; clear ho hb hg hat))
  exact bodyPost_ret (v := .tuple #[.slice none 0 0, .slice A6 ([] ++ limbs m).length c6]) (by simp [results, Tryd.results58]) rfl ⟨_, _, rfl, by unfold IsNew; rw [limbs_zero]; exact V_of_R (ok := fun _ => True) (Kd.R_nil _ _ _ _ _), V_of_R HO3.out, HB3.out⟩

set_option maxHeartbeats 2000000 in
theorem natDiv_short (u v : Value) (m n : Nat) (w : World) (hu : IsNat w u m) (hv : IsNat w v n) (hm : (limbs m).length < 1000000) (h0 : 0 < n) (hn : n < 1000000000) (hle : n ≤ m) :
    Calls Tryd.prog 58 #[u, v] w fun e w' => ∃ q r, e = .returned (.tuple #[q, r]) ∧ IsNew w' w.heap.size q (m / n) ∧ IsNew w' w.heap.size r (m % n) ∧ Below w.heap.size w w' := by
  have hln := limbs_one n h0 hn
  have hmod : m % n < 1000000000 := Nat.lt_trans (Nat.mod_lt m h0) hn
  have HC := Aside0.mk (natCmp_any u v m n w hu hv hm (by rw [hln]; simp))
  have HS := Aside0.mk (fun W hW => natShort_any u m n W hW hm h0 hn)
  have HF := Aside0.mk (fun W => natFrom_new (m % n) W (by omega))
  obtain ⟨t, ht, hg⟩ : ∃ t, cmp m n = t ∧ decide (t < 0) = false := by
    refine ⟨_, rfl, decide_eq_false ?_⟩
    unfold cmp
    split
    · omega
    · split <;> omega
  rw [ht] at HC
  have HU := Aside0.mk hu
  obtain ⟨A, c, rfl, hc, hr⟩ := hu
  obtain ⟨A', c', rfl, hc', hr'⟩ := hv
  obtain ⟨ad, e0, hc0⟩ := Kd.at_int hr' (0 : Int) (by omega) (by rw [hln]; simp)
  unfold rd at hc0
  rw [hln] at hc0
  simp only [Int.toNat_zero, List.getD_cons_zero] at hc0
  have hc0 : w.cell? ad = some (.int .u32 (n : Int)) := by rw [Addr.add_zero'] at hc0; exact hc0
  rw [hln] at HC ⊢
  subst e0
  have hcw : ∀ w1, Below w.heap.size w w1 → w1.cell? ad = some (.int .u32 (n : Int)) := fun w1 hb => pw_cell_below hb hc0
  have HCW := Aside0.mk hcw
  generalize m % n = r at HS HF hmod ⊢
  generalize m / n = q at HS ⊢
  clear hr hr' hc hc' hle ht hcw hc0 hln h0 hn hm
  go_enter Tryd.func58, Tryd.ntmps58
  go_wp2_with (first | (go_at_call 60; go_must (refine HC.out.mono ?_); rintro e w1 ⟨rfl, hb⟩; have HB := Aside0.mk hb; have c1 := HCW.out _ hb; clear hb) | (go_at_call 87; go_must (refine (HS.out _ (HU.out.below HB.out)).mono ?_); rintro e w2 ⟨v2, rfl, hn2, hb⟩; obtain ⟨A2, c2, rfl⟩ := hn2.slice; have HQ := Aside0.mk (hn2.lower HB.out.size); have HB2 := Aside0.mk (HB.out.trans (hb.mono HB.out.size)); clear hn2 hb) | (go_at_call 11; go_must (refine (HF.out _).mono ?_); rintro e w3 ⟨v3, rfl, hn3, hb⟩; obtain ⟨A3, c3, rfl⟩ := hn3.slice; have HQ3 := Aside0.mk (HQ.out.below hb); have HR3 := Aside0.mk (hn3.lower HB2.out.size); have HB3 := Aside0.mk (HB2.out.trans (hb.mono HB2.out.size)); clear hn3 hb))
  exact bodyPost_ret (v := .tuple #[.slice A2 (limbs q).length c2, .slice A3 (limbs r).length c3]) (by simp [results, Tryd.results58]) rfl ⟨_, _, rfl, HQ3.out, HR3.out, HB3.out⟩
end Go.Proofs.YthkmgjkajllemaaDoor.NatOps

/- Long division by limbs: plain facts on numbers, no program is in sight. -/
namespace Go.Proofs.YthkmgjkajllemaaDoor.LongDiv
open Go.RowKit Go.Proofs.YthkmgjkajllemaaDoorW.PrintWords Go.Proofs.YthkmgjkajllemaaDoor.Num Go.Proofs.YthkmgjkajllemaaDoor.Val Go.Proofs.YthkmgjkajllemaaDoor.Arith
set_option linter.unusedVariables false
set_option linter.unusedSimpArgs false

/-- One limb more of a quotient, by a divisor of any length. -/
theorem step {n b : Nat} {out : List Int} {i : Nat} (h : Short n b out (i + 1)) (hi : i < (limbs n).length) (hb : 0 < b) :
    Short n b (out.set i (((rest n (i + 1) % b * 1000000000 + rest n i % 1000000000) / b : Nat) : Int)) i ∧ (rest n (i + 1) % b * 1000000000 + rest n i % 1000000000) % b = rest n i % b ∧ (rest n (i + 1) % b * 1000000000 + rest n i % 1000000000) / b < 1000000000 := by
  have hs := rest_step n i
  have hlen := h.len
  have hmod := Nat.mod_lt (rest n (i + 1)) hb
  obtain ⟨x, hx⟩ : ∃ x, rest n i % 1000000000 = x := ⟨_, rfl⟩
  have hxl : x < 1000000000 := by omega
  obtain ⟨t, ht⟩ : ∃ t, rest n (i + 1) = t := ⟨_, rfl⟩
  have hw := h.worth
  rw [hx, ht] at hs ⊢
  rw [ht] at hmod hw
  have hdm := Nat.div_add_mod t b
  have hq : (t % b * 1000000000 + x) / b < 1000000000 := by
    rw [Nat.div_lt_iff_lt_mul hb]
    have : (t % b + 1) * 1000000000 ≤ b * 1000000000 := Nat.mul_le_mul_right _ hmod
    omega
  have hrec : rest n i = t / b * 1000000000 * b + (t % b * 1000000000 + x) := by
    rw [hs]
    generalize t / b = u at *
    generalize t % b = v at *
    subst hdm
    grind
  have hd : rest n i / b = t / b * 1000000000 + (t % b * 1000000000 + x) / b := by
    rw [hrec, Nat.mul_comm (t / b * 1000000000) b, Nat.mul_add_div hb]
  have hm : (t % b * 1000000000 + x) % b = rest n i % b := by
    rw [hrec, Nat.mul_comm (t / b * 1000000000) b, Nat.mul_add_mod]
  obtain ⟨u, hu⟩ : ∃ u, (t % b * 1000000000 + x) / b = u := ⟨_, rfl⟩
  rw [hu] at hq hd ⊢
  refine ⟨⟨by simp [hlen], h.digs.set _ (by omega) (by show _ < (1000000000 : Int); omega), ?_, fun k hk => ?_⟩, hm, hq⟩
  · rw [val_set _ _ _ (by omega), h.zero i (by omega), hw, hd, Int.pow_succ]
    generalize t / b = v
    generalize (1000000000 : Int) ^ i = P
    rw [Int.natCast_add, Int.natCast_mul]
    grind
  · rw [getD_set _ _ _ _ (by omega), if_neg (by omega)]
    exact h.zero k (by omega)
theorem start (n b : Nat) (hb : 0 < b) : Short n b (List.replicate (limbs n).length 0) (limbs n).length :=
  ⟨by simp, Digs.zeros _, by rw [val_zeros, rest_done]; simp, fun k hk => by rw [List.getD_eq_getElem?_getD, List.getElem?_replicate]; split <;> simp⟩
theorem done {n b : Nat} {out : List Int} (h : Short n b out 0) : (val out).toNat = n / b := by
  have := h.worth
  rw [rest_zero, Int.pow_zero, Int.one_mul] at this
  rw [this, Int.toNat_natCast]

/-- The guess is not too small. -/
theorem guess_ge (r y P : Nat) (hP : 0 < P) (hy : 0 < y / P) : r / y ≤ r / P / (y / P) := by
  rw [Nat.le_div_iff_mul_le hy, Nat.le_div_iff_mul_le hP]
  calc r / y * (y / P) * P = r / y * (y / P * P) := Nat.mul_assoc _ _ _
    _ ≤ r / y * y := Nat.mul_le_mul_left _ (Nat.div_mul_le_self y P)
    _ ≤ r := Nat.div_mul_le_self r y
/-- A product with a digit that is too great is too great. -/
theorem too_great (r y g : Nat) (hy : 0 < y) : r < y * g ↔ r / y < g := by
  rw [Nat.div_lt_iff_lt_mul hy, Nat.mul_comm]
theorem len_mul (m n : Nat) : (limbs (m * n)).length ≤ (limbs m).length + (limbs n).length := by
  have h1 := val_lt (digs_limbs m)
  have h2 := val_lt (digs_limbs n)
  rw [val_limbs] at h1 h2
  have h1' : m < 1000000000 ^ (limbs m).length := by
    have : (m : Int) < ((1000000000 ^ (limbs m).length : Nat) : Int) := by rw [Int.natCast_pow]; exact h1
    omega
  have h2' : n < 1000000000 ^ (limbs n).length := by
    have : (n : Int) < ((1000000000 ^ (limbs n).length : Nat) : Int) := by rw [Int.natCast_pow]; exact h2
    omega
  apply limbs_length
  rw [Nat.pow_add]
  exact Nat.mul_lt_mul'' h1' h2'
theorem len_mono {m n : Nat} (h : m ≤ n) : (limbs m).length ≤ (limbs n).length := by
  rcases Nat.lt_or_ge (limbs n).length (limbs m).length with h1 | h1
  · exact absurd (limbs_len_lt n m h1) (by omega)
  · exact h1
/-- The divisor's highest limb. -/
theorem top_pos (n : Nat) (h : 0 < (limbs n).length) : 0 < rest n ((limbs n).length - 1) ∧ rest n ((limbs n).length - 1) < 1000000000 := by
  refine ⟨(rest_pos n _).1 (by omega), ?_⟩
  have h1 := rest_done n
  have h2 := rest_step n ((limbs n).length - 1)
  rw [show (limbs n).length - 1 + 1 = (limbs n).length by omega, h1] at h2
  omega
/-- A list of a limb, and above it the limbs of a number. -/
theorem cons_val (x r : Nat) : val ((x : Int) :: limbs r) = ((r * 1000000000 + x : Nat) : Int) := by
  simp only [val, val_limbs]
  omega
theorem cons_digs (x r : Nat) (h : x < 1000000000) : Digs ((x : Int) :: limbs r) :=
  Digs.cons (by omega) (by show _ < (1000000000 : Int); omega) (digs_limbs r)
end Go.Proofs.YthkmgjkajllemaaDoor.LongDiv

/- NatDiv: the long case, by a divisor of two limbs or more. -/
namespace Go.Proofs.YthkmgjkajllemaaDoor.NatOps
open Go.RowKit Go.Proofs.YthkmgjkajllemaaDoorW.PrintWords Go.Proofs.YthkmgjkajllemaaDoorW.PrintLast Go.Proofs.YthkmgjkajllemaaDoorW.PrintMore Go.Proofs.YthkmgjkajllemaaDoor.Num Go.Proofs.YthkmgjkajllemaaDoor.Str Go.Proofs.YthkmgjkajllemaaDoor.Nats Go.Proofs.YthkmgjkajllemaaDoor.Val Go.Proofs.YthkmgjkajllemaaDoor.Arith
set_option linter.unusedVariables false
set_option linter.unusedSimpArgs false

theorem below_on {w w1 w2 : World} {b : Nat} (h : Below b w w1) (h2 : Below w1.heap.size w1 w2) (hb : b ≤ w1.heap.size) : Below b w w2 := h.trans (h2.mono hb)
theorem app_slice {e base : Nat} {ok : Nat → Prop} {w : World} {v : Value} {d : Int} {l : List Int} (h : Kd.R (Kd.int .u32) e w base ok v ([d] ++ l)) : ∃ A c, v = .slice A (l.length + 1) c := by
  obtain ⟨A, c, e1⟩ := Kd.R_slice h
  exact ⟨A, c, e1⟩
theorem nil_nat (w : World) (b : Nat) : IsNew w b (.slice none 0 0) 0 := by
  unfold IsNew
  rw [limbs_zero]
  exact V_of_R (ok := fun _ => True) (Kd.R_nil _ _ _ _ _)
/-- A limb of a number in memory. -/
theorem nat_cell {w : World} {A : Option Addr} {k c n : Nat} (h : IsNat w (.slice A k c) n) (i : Nat) (hi : i < k) : k = (limbs n).length ∧ ∃ ad, A = some ad ∧ w.cell? (ad.add i) = some (.int .u32 ((rest n i % 1000000000 : Nat) : Int)) := by
  obtain ⟨A', c', e, _, hr⟩ := h
  injection e with e1 e2 e3
  subst e1 e2
  obtain ⟨ad, e0, hc⟩ := Kd.at_int hr (i : Int) (by omega) (by omega)
  rw [rd_nat, limbs_getD, Int.toNat_natCast] at hc
  exact ⟨rfl, ad, e0, hc⟩
theorem lt_pow (n : Nat) : n < 1000000000 ^ (limbs n).length := by
  have h := val_lt (digs_limbs n)
  rw [val_limbs] at h
  have : (n : Int) < ((1000000000 ^ (limbs n).length : Nat) : Int) := by rw [Int.natCast_pow]; exact h
  omega
theorem guess_f (r y : Nat) (hy : 0 < (limbs y).length) (hr : r < y * 1000000000) (hl : (limbs y).length < 1000000) :
    ∃ g : Nat, PnatGuess.spec_natGuess.f (limbs r) (limbs y) = some (g : Int) ∧ r / y ≤ g ∧ g ≤ 999999999 := by
  obtain ⟨n, hn⟩ : ∃ n, (limbs y).length = n + 1 := ⟨(limbs y).length - 1, by omega⟩
  have ht := LongDiv.top_pos y hy
  rw [hn, Nat.add_sub_cancel] at ht
  have hr1 : (limbs r).length ≤ n + 2 := by
    have h := lt_pow y
    rw [hn] at h
    exact limbs_length (n + 2) r (by rw [Nat.pow_succ]; exact Nat.lt_of_lt_of_le hr (Nat.mul_le_mul_right _ (Nat.le_of_lt h)))
  have hrd := rest_done r
  have hs0 := rest_step r n
  have hs1 := rest_step r (n + 1)
  have hp2 := rest_pos r (n + 2)
  have hp1 := rest_pos r (n + 1)
  have hr2 : rest r (n + 1 + 1) = 0 := by
    rcases Nat.eq_zero_or_pos (rest r (n + 1 + 1)) with h | h
    · exact h
    · have := hp2.2 h; omega
  have eg := LongDiv.guess_ge r y (1000000000 ^ n) (Nat.pow_pos (by decide)) ht.1
  have hq : r / y < 1000000000 := Nat.div_lt_of_lt_mul hr
  have e1 : wrap64 (((n + 1 : Nat) : Int) - 1) = (n : Int) := by rw [w64' _ (by omega) (by omega)]; omega
  have ht0 := ht.1
  have ht1 := ht.2
  have hgy : (limbs y).getD n 0 = ((rest y n : Nat) : Int) := by rw [limbs_getD, Nat.mod_eq_of_lt ht.2]
  have hR : r / 1000000000 ^ n = rest r n := rfl
  have hY : y / 1000000000 ^ n = rest y n := rfl
  rw [hR, hY] at eg
  unfold PnatGuess.spec_natGuess.f
  rw [hn, e1]
  by_cases h1 : ((limbs r).length : Int) < ((n + 1 : Nat) : Int)
  · rw [if_pos h1]
    have hlt := limbs_len_lt r y (by omega)
    exact ⟨0, rfl, by rw [Nat.div_eq_of_lt hlt]; exact Nat.le_refl _, by omega⟩
  · rw [if_neg h1, if_pos (by omega), if_pos (by omega)]
    have fin : ∀ a : Nat, a = rest r n → ∃ g : Nat, some (mn (IntKind.u64.wrap (Int.tdiv (a : Int) ((rest y n : Nat) : Int))) 999999999) = some (g : Int) ∧ r / y ≤ g ∧ g ≤ 999999999 := by
      intro a ha
      have hb : a < 1000000000 * 1000000000 := by omega
      have hd : a / rest y n ≤ a := Nat.div_le_self _ _
      refine ⟨min (a / rest y n) 999999999, ?_, ?_, Nat.min_le_right _ _⟩
      · rw [Int.tdiv_eq_ediv_of_nonneg (by omega), ← Int.natCast_ediv]
        generalize a / rest y n = dd at *
        rw [IntWalk.u64_in (dd : Int) ⟨by omega, by omega⟩]
        unfold mn
        congr 1
        omega
      · rw [ha]
        omega
    have wy : IntKind.u64.wrap ((rest y n : Nat) : Int) = ((rest y n : Nat) : Int) := IntWalk.u64_in _ ⟨by omega, by omega⟩
    by_cases h2 : ((limbs r).length : Int) > ((n + 1 : Nat) : Int)
    · have hg1 : (limbs r).getD (n + 1) 0 = ((rest r (n + 1) : Nat) : Int) := by rw [limbs_getD, Nat.mod_eq_of_lt (by omega)]
      rw [if_pos h2, if_pos (by omega), if_pos (by omega), if_pos (by omega), rd_nat, rd_nat, rd_nat, hgy, hg1, limbs_getD, wy, if_neg (by omega)]
      have hm : rest r n % 1000000000 < 1000000000 := Nat.mod_lt _ (by decide)
      generalize rest r n % 1000000000 = lo at *
      generalize rest r (n + 1) = hi at *
      have hhi : hi < 1000000000 := by omega
      have e2 : IntKind.u64.wrap (IntKind.u64.wrap (lo : Int) + IntKind.u64.wrap (IntKind.u64.wrap (hi : Int) * 1000000000)) = ((lo + hi * 1000000000 : Nat) : Int) := by
        rw [IntWalk.u64_in (lo : Int) ⟨by omega, by omega⟩, IntWalk.u64_in (hi : Int) ⟨by omega, by omega⟩, IntWalk.u64_in ((hi : Int) * 1000000000) ⟨by omega, by omega⟩, IntWalk.u64_in ((lo : Int) + (hi : Int) * 1000000000) ⟨by omega, by omega⟩]
        omega
      rw [e2]
      exact fin _ (by omega)
    · have hz : rest r (n + 1) = 0 := by
        rcases Nat.eq_zero_or_pos (rest r (n + 1)) with h | h
        · exact h
        · have := hp1.2 h; omega
      rw [if_neg h2, if_pos (by omega), rd_nat, rd_nat, hgy, limbs_getD, wy, if_neg (by omega)]
      have hm : rest r n % 1000000000 < 1000000000 := Nat.mod_lt _ (by decide)
      generalize rest r n % 1000000000 = lo at *
      rw [IntWalk.u64_in (lo : Int) ⟨by omega, by omega⟩]
      exact fin _ (by omega)
/-- natGuess: not less than the digit. -/
theorem natGuess_any (u v : Value) (r y : Nat) (w : World) (hu : IsNat w u r) (hv : IsNat w v y) (hy : 0 < (limbs y).length) (hr : r < y * 1000000000) (hl : (limbs y).length < 1000000) :
    Calls Tryd.prog 88 #[u, v] w fun e w' => ∃ g : Nat, e = .returned (.int .u64 g) ∧ r / y ≤ g ∧ g ≤ 999999999 ∧ Below w.heap.size w w' := by
  obtain ⟨A, c, rfl, hc, hr0⟩ := hu
  obtain ⟨A', c', rfl, hc', hr'⟩ := hv
  obtain ⟨g, hf, h1, h2⟩ := guess_f r y hy hr hl
  refine (PnatGuess.spec_natGuess.calls A c _ A' c' _ _ w hr0 hc hr' hc' hf).mono ?_
  rintro e w' ⟨rfl, hb⟩
  exact ⟨g, rfl, h1, h2, hb⟩

set_option maxHeartbeats 8000000 in
set_option maxRecDepth 100000 in
theorem natDiv_long (u v : Value) (m n : Nat) (w : World) (hu : IsNat w u m) (hv : IsNat w v n) (hm : (limbs m).length < 100000) (hn : (limbs n).length < 100000) (h2 : 2 ≤ (limbs n).length) (hle : n ≤ m) :
    Calls Tryd.prog 58 #[u, v] w fun e w' => ∃ q r, e = .returned (.tuple #[q, r]) ∧ IsNew w' w.heap.size q (m / n) ∧ IsNew w' w.heap.size r (m % n) ∧ Below w.heap.size w w' := by
  have h0 : 0 < n := by
    have := (rest_pos n 0).1 (by omega)
    rwa [rest_zero] at this
  have htop := LongDiv.top_pos n (by omega)
  obtain ⟨k, hk⟩ : ∃ k, (limbs n).length = k + 1 := ⟨(limbs n).length - 1, by omega⟩
  rw [hk, Nat.add_sub_cancel] at htop
  have hgt : (limbs n).getD k 0 = ((rest n k : Nat) : Int) := by rw [limbs_getD, Nat.mod_eq_of_lt htop.2]
  obtain ⟨t, ht⟩ : ∃ t, rest n k = t := ⟨_, rfl⟩
  rw [ht] at htop hgt
  obtain ⟨b, hb⟩ : ∃ b, 1000000000 / (t + 1) = b := ⟨_, rfl⟩
  have hb0 : 0 < b := by rw [← hb]; exact Nat.div_pos (by omega) (by omega)
  have hb1 : b < 1000000000 := by rw [← hb]; exact Nat.div_lt_self (by omega) (by omega)
  have hbi : (1000000000 : Int) / ((t : Int) + 1) = (b : Int) := by rw [← hb, Int.natCast_ediv]; rfl
  have hlb := limbs_one b hb0 hb1
  have lx := LongDiv.len_mul m b
  have ly := LongDiv.len_mul n b
  rw [hlb] at lx ly
  simp only [List.length_cons, List.length_nil] at lx ly
  have HC := Lib.hid (natCmp_any u v m n w hu hv (by omega) (by omega))
  have HX := Lib.hid (fun r W h1 h2 => natMul_any u r m b W h1 h2 (by omega) (by rw [hlb]; simp))
  have HY := Lib.hid (fun r W h1 h2 => natMul_any v r n b W h1 h2 (by omega) (by rw [hlb]; simp))
  have HU := Lib.hid (fun (W : World) (hb : Below w.heap.size w W) => hu.below hb)
  have HV := Lib.hid (fun (W : World) (hb : Below w.heap.size w W) => hv.below hb)
  have hq : m * b / (n * b) = m / n := Nat.mul_div_mul_right _ _ hb0
  have hr : m * b % (n * b) / b = m % n := by rw [Nat.mul_mod_mul_right, Nat.mul_div_cancel _ hb0]
  have hxp : 0 < m * b := Nat.mul_pos (by omega) hb0
  have hyp : 0 < n * b := Nat.mul_pos h0 hb0
  rw [← hq, ← hr]
  obtain ⟨x, hx⟩ : ∃ x, m * b = x := ⟨_, rfl⟩
  obtain ⟨y, hy⟩ : ∃ y, n * b = y := ⟨_, rfl⟩
  rw [hx] at HX lx hxp
  rw [hy] at HY ly hyp
  rw [hx, hy]
  have hlx : 0 < (limbs x).length := (rest_pos x 0).2 (by rw [rest_zero]; exact hxp)
  have hly : 0 < (limbs y).length := (rest_pos y 0).2 (by rw [rest_zero]; exact hyp)
  obtain ⟨tc, htc, hg⟩ : ∃ t, cmp m n = t ∧ decide (t < 0) = false := by
    refine ⟨_, rfl, decide_eq_false ?_⟩
    unfold cmp
    split
    · omega
    · split <;> omega
  rw [htc] at HC
  have HQ := Lib.hid hq
  have HHR := Lib.hid hr
  clear hq hr
  obtain ⟨A, c, rfl, hc, hr⟩ := hu
  obtain ⟨A', c', rfl, hc', hr'⟩ := hv
  obtain ⟨ad, e0, hc0⟩ := Kd.at_int hr' (k : Int) (by omega) (by omega)
  rw [rd_nat, hgt, Int.toNat_natCast] at hc0
  subst e0
  have HCW := Lib.hid (fun w1 (hb : Below w.heap.size w w1) => pw_cell_below hb hc0)
  rw [hk] at HC HY HV ⊢
  have hk1 : 1 ≤ k := by omega
  have hkl : k < 100000 := by omega
  have hkb : (((k : Int) + 1) == 1) = false := by
    rw [beq_eq_false_iff_ne]
    omega
  have htl := htop.2
  have HLX := Lib.hid lx
  have HLY := Lib.hid ly
  have HLB := Lib.hid hlb
  clear hr hr' hc hc' hle htc hc0 htop hgt hk hlb hx hy ht hb h2 h0
  go_enter Tryd.func58, Tryd.ntmps58
  go_wp2_with (first | (go_at_call 60; go_must (refine HC.out.mono ?_); rintro e w1 ⟨rfl, hb⟩; have HB := Lib.hid hb; have c1 := HCW.out _ hb; clear hb) | ((with_reducible refine gate_dst (N := 46) rfl ?_); go_must (refine Kd.R_lit (w0 := w) (Kd.int .u32) w.heap.size 69 rfl (N := 46) rfl (xs := ([(b : Int)] : List Int)) (inner := [.int .u32 (b : Int)]) (ok := fun _ => True) (okp := fun _ => True) (by first | (go_simp; done) | (go_simp; rfl)) (Reps.one rfl (Reps.none _ _)) (fun _ hk => hk) trivial HB.out HB.out.size (by simp) ?_); intro v8 w2 ho hb hg hnw; go_must (have HO2 : Hid (IsNew w2 w.heap.size v8 b) := Lib.hid (by unfold IsNew; rw [HLB.out]; exact V_of_R ho)); go_must (have HB2 := Lib.hid hb); obtain ⟨A8, c8, rfl⟩ : ∃ A8 c8, v8 = .slice A8 1 c8 := Kd.R_slice ho; clear ho hb hg hnw) | (go_at_call 56; (with_reducible refine (HX.out _ _ (HU.out _ HB2.out) HO2.out.isNat).mono ?_); rintro e w3 ⟨xv, rfl, hn3, hb⟩; have HB3 := Lib.hid (below_on HB2.out hb HB2.out.size); have HO3 := Lib.hid (HO2.out.below hb); have HX3 := Lib.hid (hn3.lower HB2.out.size); obtain ⟨Ax, cx, rfl⟩ := hn3.slice; clear hn3 hb) | (go_at_call 56; (with_reducible refine (HY.out _ _ (HV.out _ HB3.out) HO3.out.isNat).mono ?_); rintro e w4 ⟨yv, rfl, hn4, hb⟩; have HB4 := Lib.hid (below_on HB3.out hb HB3.out.size); have HO4 := Lib.hid (HO3.out.below hb); have HX4 := Lib.hid (HX3.out.below hb); have HY4 := Lib.hid (hn4.lower HB3.out.size); obtain ⟨Ay, cy, rfl⟩ := hn4.slice; clear hn4 hb) | ((with_reducible refine gate_dst (N := 55) rfl ?_); go_must (refine Kd.R_make (w0 := w4) (Kd.int .u32) w4.heap.size 69 rfl (N := 55) rfl 25 _ _ rfl ((limbs x).length : Int) rfl rfl Tryd.underlying25 (.int .u32 0) 4 info69 rfl (by decide) (by omega) 0 (ok := fun _ => True) (okp := fun _ => True) rfl (fun _ hk => hk) trivial (by omega) (by omega) (Below.refl _ _) (Nat.le_refl _) ?_); intro qv w5 ho hb hg hnew; obtain ⟨g, cq, e1, h1, h2, _⟩ := Kd.R_form ho (by simp; omega); subst e1; rw [Int.toNat_natCast] at ho; rw [List.length_replicate] at ho; have HQ5 := Lib.hid ho; have HB5 := Lib.hid hb; have HG5 := Lib.hid h1; clear ho hb hg hnew h1 h2))
  have HXI := Lib.hid (fun (W : World) (h : Below w4.heap.size w4 W) => (HX4.out.below h).isNat)
  have HYI := Lib.hid (fun (W : World) (h : Below w4.heap.size w4 W) => (HY4.out.below h).isNat)
  have HOI := Lib.hid (fun (W : World) (h : Below w4.heap.size w4 W) => (HO4.out.below h).isNat)
  have hlb1 : 0 < 1 := Nat.one_pos
  obtain ⟨-, ad8, e8, -⟩ := nat_cell (HOI.out _ (Below.refl _ _)) 0 hlb1
  subst e8
  have hlxm : (limbs x).length < 200000 := by omega
  have hlym : (limbs y).length < 200000 := by omega
  clear c1 HB HB2 HB3 HO2 HO3 HO4 HX3 HX4 HY4 HU HV HX HY HC HCW hlb1 hkb hbi lx ly hm hn hk1 hkl htl hg
  go_loopw [5, 11] (fun v5 v11 wr => ∃ (out : List Int) (i : Nat) (z : Int), v11 = .int .i64 z ∧ Aside0 (z = (i : Int) - 1) ∧ i ≤ (limbs x).length ∧ Aside0 (Short x y out i) ∧ Aside0 (Kd.R (Kd.int .u32) 69 wr w4.heap.size (fun _ => True) (.slice (some ⟨g, 0, none⟩) (limbs x).length cq) out) ∧ Aside0 (IsNew wr (g + 1) v5 (rest x i % y)) ∧ Aside0 (Below w4.heap.size w4 wr)) (fun _ v11 _ => (intOf v11 + 1).toNat)
  case atStart => exact ⟨_, (limbs x).length, _, rfl, ⟨rfl⟩, Nat.le_refl _, ⟨LongDiv.start x y hyp⟩, ⟨HQ5.out⟩, ⟨by rw [rest_done, Nat.zero_mod]; exact nil_nat _ _⟩, ⟨HB5.out⟩⟩
  case round =>
    clear HQ5 HB5
    obtain ⟨out, i, z, rfl, HZ, hi, HS, HQr, HR, HBr⟩ := hrel
    obtain ⟨A5, c5, rfl⟩ := HR.out.slice
    by_cases hz : i = 0
    · subst hz
      obtain rfl : z = -1 := by have := HZ.out; omega
      obtain ⟨-, ad8', e8, hc8⟩ := nat_cell (HOI.out _ HBr.out) 0 Nat.one_pos
      cases e8
      rw [rest_zero, Nat.mod_eq_of_lt hb1, Addr.add_zero'] at hc8
      have HR0 := HR.out.isNat
      rw [rest_zero] at HR0 ⊢
      have hml : x % y < y := Nat.mod_lt _ hyp
      have hll := LongDiv.len_mono (Nat.le_of_lt hml)
      have HSh := Lib.hid (natShort_any _ (x % y) b wr HR0 (by omega) hb0 hb1)
      have HD := Lib.hid (LongDiv.done HS.out)
      have HTr := Lib.hid (fun W (h : Below wr.heap.size wr W) => natTrim_any w.heap.size (.slice (some ⟨g, 0, none⟩) (limbs x).length cq) out W (V_of_R (Kd.R_lower (Kd.R_below HQr.out h) HB4.out.size)) HS.out.digs (by have := HS.out.len; omega) (Nat.le_trans HB4.out.size (Nat.le_trans HBr.out.size h.size)))
      rw [HD.out] at HTr
      have HBw := Lib.hid (below_on HB4.out HBr.out HB4.out.size)
      clear HS HQr HR HR0 HZ hll hml hi
      go_wp2_with (first | (go_at_call 87; go_must (refine HSh.out.mono ?_); rintro e w6 ⟨v6, rfl, hn6, hb⟩; have HB6 := Lib.hid hb; have HN6 := Lib.hid hn6; obtain ⟨A6, c6, rfl⟩ := hn6.slice; clear hn6 hb) | (go_at_call 86; go_must (refine (HTr.out _ HB6.out).mono ?_); rintro e w7 ⟨v7, rfl, hn7, hb⟩; have HB7 := Lib.hid hb; have HN7 := Lib.hid hn7; obtain ⟨A7, c7, rfl⟩ := hn7.slice; clear hn7 hb))
      go_ret2
      exact ⟨_, _, rfl, HN7.out, (HN6.out.below HB7.out).lower HBw.out.size, below_on (below_on HBw.out HB6.out HBw.out.size) HB7.out (Nat.le_trans HBw.out.size HB6.out.size)⟩
    · obtain ⟨j, rfl⟩ : ∃ j, i = j + 1 := ⟨i - 1, by omega⟩
      obtain rfl : z = (j : Int) := by have := HZ.out; omega
      have hj : j < (limbs x).length := by omega
      obtain ⟨-, adx, e0, hcx⟩ := nat_cell (HXI.out _ HBr.out) j hj
      subst e0
      obtain ⟨hst1, hst2, hst3⟩ := LongDiv.step HS.out hj hyp
      obtain ⟨d0, hd0⟩ : ∃ d, rest x j % 1000000000 = d := ⟨_, rfl⟩
      have hd0l : d0 < 1000000000 := by rw [← hd0]; exact Nat.mod_lt _ (by decide)
      obtain ⟨s, hs⟩ : ∃ s, rest x (j + 1) % y = s := ⟨_, rfl⟩
      have hsl : s < y := by rw [← hs]; exact Nat.mod_lt _ hyp
      rw [hs] at HR ⊢
      rw [hs, hd0] at hst1 hst2 hst3
      rw [hd0] at hcx
      obtain ⟨rr, hrr⟩ : ∃ rr, s * 1000000000 + d0 = rr := ⟨_, rfl⟩
      have hrrl : rr < y * 1000000000 := by
        have : (s + 1) * 1000000000 ≤ y * 1000000000 := Nat.mul_le_mul_right _ hsl
        omega
      have hsm := LongDiv.len_mono (Nat.le_of_lt hsl)
      have hrm := LongDiv.len_mono (Nat.le_of_lt hrrl)
      have hy9 := LongDiv.len_mul y 1000000000
      have h9 := limbs_length 2 1000000000 (by decide)
      have HT := Lib.hid (fun u W hu hb => natTrim_any wr.heap.size u ((d0 : Int) :: limbs s) W hu (LongDiv.cons_digs d0 s hd0l) (by rw [List.length_cons]; omega) hb)
      rw [LongDiv.cons_val, Int.toNat_natCast, hrr] at HT
      rw [hrr] at hst1 hst2 hst3
      have HG := Lib.hid (fun u W h1 h2 => natGuess_any u (.slice Ay (limbs y).length cy) rr y W h1 h2 hly hrrl (by omega))
      have HF := Lib.hid (fun x W h => natFrom_new x W h)
      have hgl := fun gd (h : gd ≤ 999999999) => limbs_length 1 gd (by omega)
      have HM := Lib.hid (fun u gd W h1 h2 (h3 : gd ≤ 999999999) => natMul_any (.slice Ay (limbs y).length cy) u y gd W h1 h2 (by omega) (by have := hgl gd h3; omega))
      have hpl := fun gd (h : gd ≤ 999999999) => (LongDiv.len_mul y gd)
      have HCm := Lib.hid (fun u v gd W h1 h2 (h3 : gd ≤ 999999999) => natCmp_any u v (y * gd) rr W h1 h2 (by have := hpl gd h3; have := hgl gd h3; omega) (by omega))
      have HSb := Lib.hid (fun u gd W h1 h2 (h3 : gd ≤ 999999999) h4 => natSub_any u (.slice Ay (limbs y).length cy) (y * gd) y W h1 h2 (by have := hpl gd h3; have := hgl gd h3; omega) h4)
      have HSr := Lib.hid (fun u v gd W h1 h2 h3 => natSub_any u v rr (y * gd) W h1 h2 (by omega) h3)
      have HST1 := Lib.hid hst1
      have HST2 := Lib.hid hst2
      obtain ⟨_, _, e5, hc5, hr5⟩ := HR.out.isNat
      injection e5 with e5a e5b e5c
      subst e5a e5c
      have HR5 := Lib.hid hr5
      have HBq := Lib.hid (Below.refl wr.heap.size wr)
      have HGM : g < wr.heap.size := Kd.R_lt HQr.out g rfl
      have hsl5 : (limbs s).length < 300000 := by omega
      clear hr5 hc5 e5b HZ HS hst1 hst2 hd0 hs hrr hsl hsm hrm hy9 h9 hgl hpl hz hi HR
      go_wp2_with (first | ((with_reducible refine gate_dst (N := 67) rfl ?_); go_must (refine Kd.R_lit (w0 := wr) (Kd.int .u32) wr.heap.size 69 rfl (N := 67) rfl (xs := ([(d0 : Int)] : List Int)) (inner := [.int .u32 (d0 : Int)]) (ok := fun _ => True) (okp := fun _ => True) (by first | (go_simp; done) | (go_simp; rfl)) (Reps.one rfl (Reps.none _ _)) (fun _ hk => hk) trivial HBq.out HBq.out.size (by simp) ?_); intro v67 w6 ho hb hg hnw; have HO := Lib.hid ho; have HB6 := Lib.hid hb; have HR6 := Lib.hid (Kd.C_below HR5.out hb); clear ho hb hg hnw) | ((with_reducible refine gate_builtin (b := .append) (xs := #[.tmp 67, .tmp 68]) rfl ?_); at_builtin; go_must (refine Kd.R_append_rows (Kd.int .u32) (Rr := (Kd.int .u32).K w6) (w0 := wr) wr.heap.size rfl (.tmp 67) (.tmp 68) 25 69 (.int .u32 0) 4 rfl Tryd.underlying25 info69 rfl (by decide) (by omega) v67 [(d0 : Int)] (limbs s) A5 (limbs s).length c5 (fun _ => True) (fun _ => False) rfl rfl HO.out HR6.out (fun _ _ h => h) (fun _ hk => hk.elim) (fun _ _ => trivial) HB6.out HB6.out.size (by simp <;> omega) ?_); intro v69 w7 ho hb hg hat; obtain ⟨A6, c6, rfl⟩ := app_slice ho; have HO7 := Lib.hid (V_of_R ho); have HB7 := Lib.hid hb; clear ho hb hg hat) | (go_at_call 86; go_must (refine (HT.out _ _ HO7.out HB7.out.size).mono ?_); rintro e w8 ⟨r8, rfl, hn8, hb⟩; have HB8 := Lib.hid (below_on HB7.out hb HB7.out.size); have HN8 := Lib.hid hn8; obtain ⟨A8', c8', rfl⟩ := hn8.slice; clear hn8 hb) | (go_at_call 88; go_must (refine (HG.out _ _ HN8.out.isNat (HYI.out _ (below_on HBr.out HB8.out HBr.out.size))).mono ?_); rintro e w9 ⟨g0, rfl, hg0, hg1, hb⟩; have HB9 := Lib.hid (below_on HB8.out hb HB8.out.size); have HN9 := Lib.hid (HN8.out.below hb); clear hb) | (go_at_call 11; go_must (refine (HF.out g0 _ (by omega)).mono ?_); rintro e w10 ⟨v10, rfl, hn10, hb⟩; have HB10 := Lib.hid (below_on HB9.out hb HB9.out.size); have HN10 := Lib.hid (HN9.out.below hb); have HF10 := Lib.hid hn10; obtain ⟨A10, c10, rfl⟩ := hn10.slice; clear hn10 hb) | (go_at_call 56; go_must (refine (HM.out _ g0 _ (HYI.out _ (below_on HBr.out HB10.out HBr.out.size)) HF10.out.isNat hg1).mono ?_); rintro e w11 ⟨v11, rfl, hn11, hb⟩; have HB11 := Lib.hid (below_on HB10.out hb HB10.out.size); have HN11 := Lib.hid (HN10.out.below hb); have HP11 := Lib.hid (hn11.lower HB10.out.size); clear hn11 hb))
      obtain ⟨wo, rfl⟩ : ∃ wo : World, wo = wr := ⟨_, rfl⟩
      clear HR5 HR6 HO HO7 HB6 HB7 HB8 HB9 HB10 HN8 HN9 HN10 HF10 HT HG HF HM HBq hsl5 hd0l hcx
      go_loopw [12, 13] (fun v12 v13 wi => ∃ gd : Nat, v12 = .int .u64 gd ∧ Aside0 (IsNew wi wo.heap.size v13 (y * gd)) ∧ Aside0 (rr / y ≤ gd) ∧ gd ≤ 999999999 ∧ Aside0 (Below w11.heap.size w11 wi)) (fun v12 _ _ => (intOf v12).toNat)
      case atStart => exact ⟨g0, rfl, ⟨HP11.out⟩, ⟨hg0⟩, hg1, ⟨Below.refl _ _⟩⟩
      case round =>
        obtain ⟨gd, rfl, HP, hgd0, hgd1, HBi⟩ := hrel
        obtain ⟨A13, c13, rfl⟩ := HP.out.slice
        have HBa := Lib.hid (below_on HB11.out HBi.out HB11.out.size)
        have HNi := Lib.hid (HN11.out.below HBi.out)
        by_cases hgt : rr / y < gd
        · have hlt := (LongDiv.too_great rr y gd hyp).2 hgt
          have HC1 := HCm.out _ _ gd wr HP.out.isNat HNi.out.isNat hgd1
          have hc1 : cmp (y * gd) rr = 1 := by
            unfold cmp
            rw [if_neg (by omega), if_neg (by omega)]
          rw [hc1] at HC1
          have HC2 := Lib.hid HC1
          have hg3 : 1 ≤ gd := Nat.lt_of_le_of_lt (Nat.zero_le _) hgt
          have hyg : y ≤ y * gd := Nat.le_mul_of_pos_right y (by omega)
          have hyg2 : y * gd - y = y * (gd - 1) := by rw [Nat.mul_sub, Nat.mul_one]
          have HS2 := Lib.hid (fun u W h1 h2 => HSb.out u gd W h1 h2 hgd1 hyg)
          rw [hyg2] at HS2
          have HGE : Hid (rr / y ≤ gd - 1) := Lib.hid (Nat.le_sub_one_of_lt hgt)
          clear HC1 hc1 hyg hyg2 hlt hgt hgd0 HSb HSr HCm
          go_wp2_with (first | (go_at_call 60; go_must (refine HC2.out.mono ?_); rintro e w12 ⟨rfl, hb⟩; have HB12 := Lib.hid hb; have HP12 := Lib.hid (HP.out.below hb); clear hb) | (go_at_call 67; go_must (refine (HS2.out _ _ HP12.out.isNat (HYI.out _ (below_on HBr.out (below_on HBa.out HB12.out HBa.out.size) HBr.out.size))).mono ?_); rintro e w13 ⟨v13, rfl, hn13, hb⟩; have HB13 := Lib.hid (below_on HB12.out hb HB12.out.size); have HP13 := Lib.hid (hn13.lower (Nat.le_trans HBa.out.size HB12.out.size)); clear hn13 hb))
          go_roundw
          case rel => exact ⟨gd - 1, by go_num, ⟨HP13.out⟩, ⟨HGE.out⟩, by omega, ⟨below_on HBi.out HB13.out HBi.out.size⟩⟩
          case measure => simp [intOf]; omega
        · have hgd : rr / y = gd := by have := hgd0.out; omega
          have hle : y * gd ≤ rr := by rw [← hgd]; exact Nat.mul_div_le rr y
          have hsub : rr - y * gd = rest x j % y := by
            rw [← HST2.out, ← hgd]
            have := Nat.div_add_mod rr y
            omega
          obtain ⟨tc2, htc2, hg2⟩ : ∃ t, cmp (y * gd) rr = t ∧ decide (0 < t) = false := by
            refine ⟨_, rfl, decide_eq_false ?_⟩
            unfold cmp
            split
            · omega
            · rw [if_pos (by omega)]
              omega
          have HC1 := HCm.out _ _ gd wr HP.out.isNat HNi.out.isNat hgd1
          rw [htc2] at HC1
          have HC2 := Lib.hid HC1
          have HS2 := Lib.hid (fun u v W h1 h2 => HSr.out u v gd W h1 h2 hle)
          rw [hsub] at HS2
          have HST3 : Hid (Short x y (out.set j (gd : Int)) j) := by have h := HST1.out; rw [hgd] at h; exact Lib.hid h
          have HJ := Lib.hid hj
          clear HC1 htc2 hsub hle hgd hgt hgd0 HSb HSr HCm HST1 HST2
          go_wp2_with (first | (go_at_call 60; go_must (refine HC2.out.mono ?_); rintro e w12 ⟨rfl, hb⟩; have HB12 := Lib.hid (below_on HBa.out hb HBa.out.size); have HP12 := Lib.hid (HP.out.below hb); have HN12 := Lib.hid (HNi.out.below hb); clear hb) | (go_at_call 67; go_must (refine (HS2.out _ _ _ HN12.out.isNat HP12.out.isNat).mono ?_); rintro e w13 ⟨v13, rfl, hn13, hb⟩; have HB13 := Lib.hid (below_on HB12.out hb HB12.out.size); have HN13 := Lib.hid (hn13.lower (Nat.lt_of_lt_of_le HGM HB12.out.size)); go_must (have HQ13 := Kd.R_below HQr.out HB13.out); go_must (obtain ⟨hx13, hf13⟩ := Kd.R_celln 0 HQ13 (j : Int) (by omega) (by omega)); go_must (have HP13 := Kd.R_putn HQ13 (j : Int) (gd : Int)); rw [Int.toNat_natCast] at hx13 hf13 HP13; have HPU := Lib.hid HP13; clear hn13 hb HQ13 HP13))
          go_roundw
          case rel => exact ⟨_, j, _, rfl, ⟨rfl⟩, by omega, ⟨HST3.out⟩, ⟨HPU.out⟩, ⟨HN13.out.set (Nat.lt_succ_self g) _⟩, ⟨below_set (below_on HBr.out HB13.out HBr.out.size) HG5.out⟩⟩
          case measure => simp [intOf]

/-- NatDiv: quotient and remainder. -/
theorem natDiv_any (u v : Value) (m n : Nat) (w : World) (hu : IsNat w u m) (hv : IsNat w v n) (hm : (limbs m).length < 100000) (hn : (limbs n).length < 100000) (h0 : 0 < n) :
    Calls Tryd.prog 58 #[u, v] w fun e w' => ∃ q r, e = .returned (.tuple #[q, r]) ∧ IsNew w' w.heap.size q (m / n) ∧ IsNew w' w.heap.size r (m % n) ∧ Below w.heap.size w w' := by
  by_cases h1 : m < n
  · exact natDiv_less u v m n w hu hv (by omega) (by omega) h1
  · by_cases h2 : n < 1000000000
    · exact natDiv_short u v m n w hu hv (by omega) h0 h2 (by omega)
    · have h3 : 2 ≤ (limbs n).length := by
        rw [limbs_pos (by omega), limbs_pos (show 0 < n / 1000000000 by omega)]
        simp
      exact natDiv_long u v m n w hu hv hm hn h3 (by omega)
end Go.Proofs.YthkmgjkajllemaaDoor.NatOps
