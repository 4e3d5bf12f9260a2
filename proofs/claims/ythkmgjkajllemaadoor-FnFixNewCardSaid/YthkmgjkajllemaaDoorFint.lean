/- The functions of govalues over whole numbers of at most 19 digits compute what they should, where the table of powers of ten lies in memory. -/
import Derived.Test.YthkmgjkajllemaaDoorRows
import Derived.WalkKit
import Derived.Outline
import Derived.Lib.Hide
import Derived.Test.YthkmgjkajllemaaDoorNum
namespace Go.Proofs.YthkmgjkajllemaaDoor.Fint
open Go.RowKit

/-- A power of ten, closed to the walk. -/
def p10 (i : Nat) : Int := (10 : Int) ^ i
/-- How many digits a number has; 0 has none. -/
def dg : Nat → Nat
  | 0 => 0
  | n + 1 => dg ((n + 1) / 10) + 1
decreasing_by omega

theorem p10_pos (i : Nat) : 0 < p10 i := by unfold p10; exact Int.pow_pos (by decide)
theorem p10_succ (i : Nat) : p10 (i + 1) = 10 * p10 i := by unfold p10; rw [Int.pow_succ]; omega

theorem dg_le (n : Nat) : ∀ i : Nat, dg n ≤ i ↔ (n : Int) < p10 i := by
  induction n using Nat.strongRecOn with
  | ind n ih =>
    intro i
    match n with
    | 0 => simp [dg]; exact p10_pos i
    | n + 1 =>
      rw [dg]
      match i with
      | 0 => simp [p10]; omega
      | i + 1 =>
        have h := ih ((n + 1) / 10) (by omega) i
        rw [p10_succ]
        constructor
        · intro hd
          have := h.1 (by omega)
          omega
        · intro hd
          have := h.2 (by omega)
          omega

/-- The table of powers of ten lies in memory. -/
def PowAt (w : World) : Prop := ∀ i : Nat, i < 20 → w.cell? ⟨0, i, none⟩ = some (.int .u64 (p10 i))

set_option maxHeartbeats 400000 in
theorem prec_any (x : Nat) (w : World) (hp : PowAt w) (hx : (x : Int) < p10 20) :
    Calls Tryd.prog 77 #[.int .u64 x] w fun e w' => e = .returned (.int .i64 (dg x)) ∧ w = w' := by
  have hd := (dg_le x 20).2 hx
  go_enter Tryd.func77, Tryd.ntmps77
  go_wp2
  go_loop [3, 4] (fun lo hi => ∃ l h : Nat, l ≤ dg x ∧ dg x ≤ h ∧ h ≤ 20 ∧ lo = .int .i64 l ∧ hi = .int .i64 h)
    (fun lo hi => (intOf hi).toNat - (intOf lo).toNat)
  case atStart => exact ⟨0, 20, by omega, hd, by omega, rfl, rfl⟩
  case round =>
    obtain ⟨l, h, h1, h2, h3, rfl, rfl⟩ := hrel
    by_cases hlt : l < h
    · have hc := hp ((l + h) / 2) (by omega)
      have hm := dg_le x ((l + h) / 2)
      by_cases hq : (x : Int) < p10 ((l + h) / 2)
      · have hm' := hm.2 hq
        clear hm
        go_wp2
        go_round
        case rel => exact ⟨l, (l + h) / 2, by omega, by omega, by omega, rfl, by go_num⟩
        case measure => simp only [intOf]; omega
      · have hm' : ¬ dg x ≤ (l + h) / 2 := fun hh => hq (hm.1 hh)
        clear hm
        go_wp2
        go_round
        case rel => exact ⟨(l + h) / 2 + 1, h, by omega, by omega, by omega, by go_num, rfl⟩
        case measure => simp only [intOf]; omega
    · obtain rfl : l = dg x := by omega
      go_wp2
      go_ret
      exact ⟨rfl, rfl⟩

/-- How many zeros a number has at its end; 0 has none. -/
def tz (n : Nat) : Nat := if n = 0 then 0 else if n % 10 = 0 then tz (n / 10) + 1 else 0
termination_by n
decreasing_by omega
theorem tz_iff (n : Nat) : 0 < n → ∀ i, n % 10 ^ i = 0 ↔ i ≤ tz n := by
  induction n using Nat.strongRecOn with
  | ind n ih =>
    intro hn i
    rw [tz, if_neg (by omega)]
    cases i with
    | zero => simp [Nat.mod_one]
    | succ i =>
      have hd : n % 10 ^ (i + 1) = n % 10 + 10 * (n / 10 % 10 ^ i) := by rw [Nat.pow_succ, Nat.mul_comm, Nat.mod_mul]
      by_cases h : n % 10 = 0
      · rw [if_pos h, hd, h]
        have := ih (n / 10) (by omega) (by omega) i
        constructor
        · intro he
          have := this.1 (by omega)
          omega
        · intro he
          have := this.2 (by omega)
          omega
      · rw [if_neg h, hd]
        constructor
        · intro he; omega
        · intro he; omega
theorem tz_lt (n : Nat) (hn : 0 < n) : tz n < dg n := by
  apply Decidable.byContradiction
  intro hc
  have h1 := (tz_iff n hn (dg n)).2 (by omega)
  have h2 := (dg_le n (dg n)).1 (Nat.le_refl _)
  have h3 : n < 10 ^ dg n := by unfold p10 at h2; exact_mod_cast h2
  rw [Nat.mod_eq_of_lt h3] at h1
  omega
theorem tz_digit (n z : Nat) (hn : 0 < n) : (z < tz n → n / 10 ^ z % 10 = 0) ∧ (z = tz n → n / 10 ^ z % 10 ≠ 0) := by
  have hd : n % 10 ^ (z + 1) = n % 10 ^ z + 10 ^ z * (n / 10 ^ z % 10) := by rw [Nat.pow_succ, Nat.mod_mul]
  have hp : 0 < 10 ^ z := Nat.pow_pos (by decide)
  constructor
  · intro h
    have := (tz_iff n hn (z + 1)).2 (by omega)
    rw [hd] at this
    have h2 : 10 ^ z * (n / 10 ^ z % 10) = 0 := by omega
    rcases Nat.mul_eq_zero.1 h2 with h3 | h3
    · omega
    · exact h3
  · intro h he
    have h0 := (tz_iff n hn z).2 (by omega)
    rw [he, h0] at hd
    have := (tz_iff n hn (z + 1)).1 (by omega)
    omega
theorem dg_decs (n : Nat) : (Num.decs n).length = dg n := by
  induction n using Nat.strongRecOn with
  | ind n ih =>
    match n with
    | 0 => rw [Num.decs_zero, dg]; rfl
    | n + 1 =>
      rw [Num.decs_pos (by omega), dg, List.length_cons, ih _ (by omega)]

set_option maxHeartbeats 400000 in
theorem ntz_any (x : Nat) (w : World) (hp : PowAt w) (hx : (x : Int) < p10 20) :
    Calls Tryd.prog 78 #[.int .u64 x] w fun e w' => e = .returned (.int .i64 (tz x)) ∧ w = w' := by
  have hd := (dg_le x 20).2 hx
  have hprec := Lib.hid (prec_any x w hp hx)
  by_cases h0 : x = 0
  · subst h0
    have e0 : dg 0 = 0 := by rw [dg]
    rw [e0] at hprec
    clear hx hd e0
    go_enter Tryd.func78, Tryd.ntmps78
    go_wp2_with (go_at_call 77; refine (hprec.out).mono ?_; rintro e w' ⟨rfl, rfl⟩)
    refine wp_loop_rounds 1 ?_
    rw [rounds_succ]
    go_wp2
    go_ret
    exact ⟨by unfold tz; rfl, rfl⟩
  · have hxp : 0 < x := by omega
    have ht := tz_lt x hxp
    have hxp2 : (0 : Int) < x := by omega
    go_enter Tryd.func78, Tryd.ntmps78
    go_wp2_with (go_at_call 77; refine (hprec.out).mono ?_; rintro e w' ⟨rfl, rfl⟩)
    go_loop [3, 4] (fun lo hi => ∃ l h : Nat, 1 ≤ l ∧ l ≤ tz x + 1 ∧ tz x + 1 ≤ h ∧ h ≤ 20 ∧ lo = .int .i64 l ∧ hi = .int .i64 h)
      (fun lo hi => (intOf hi).toNat - (intOf lo).toNat)
    case atStart => exact ⟨1, dg x, by omega, by omega, by omega, hd, rfl, rfl⟩
    case round =>
      obtain ⟨l, h, h0, h1, h2, h3, rfl, rfl⟩ := hrel
      by_cases hlt : l < h
      · have hc := hp ((l + h) / 2) (by omega)
        have hm := tz_iff x hxp ((l + h) / 2)
        have hpos := p10_pos ((l + h) / 2)
        by_cases hq : (l + h) / 2 ≤ tz x
        · have he : ((x : Int) % p10 ((l + h) / 2) == 0) = true := by
            have := hm.2 hq
            rw [beq_iff_eq]
            unfold p10
            exact_mod_cast this
          clear hm
          go_wp2
          go_round
          case rel => exact ⟨(l + h) / 2 + 1, h, by omega, by omega, by omega, by omega, by go_num, rfl⟩
          case measure => simp only [intOf]; omega
        · have he : ((x : Int) % p10 ((l + h) / 2) == 0) = false := by
            have : ¬ x % 10 ^ ((l + h) / 2) = 0 := fun hh => hq (hm.1 hh)
            rw [beq_eq_false_iff_ne]
            unfold p10
            intro hh
            exact this (by exact_mod_cast hh)
          clear hm
          go_wp2
          go_round
          case rel => exact ⟨l, (l + h) / 2, by omega, by omega, by omega, by omega, rfl, by go_num⟩
          case measure => simp only [intOf]; omega
      · have hl := Lib.hid (show ((l : Int) - 1) = (tz x : Nat) by omega)
        have hl21 : l ≤ 21 := by omega
        clear h1 h2 ht hxp2 hd hprec hx
        go_wp2
        go_ret
        exact ⟨by rw [← hl.out]; rfl, rfl⟩

theorem hasPrec_any (x p : Nat) (w : World) (hp : PowAt w) (h1 : 1 ≤ p) (h2 : p ≤ 20) :
    Calls Tryd.prog 79 #[.int .u64 x, .int .i64 p] w fun e w' => e = .returned (.bool (decide (p10 (p - 1) ≤ (x : Int)))) ∧ w = w' := by
  obtain ⟨q, rfl⟩ : ∃ q, p = q + 1 := ⟨p - 1, by omega⟩
  have hc := hp q (by omega)
  have hv : (Value.int .i64 ((q + 1 : Nat) : Int)) = Value.int .i64 ((q : Int) + 1) := by rw [Int.natCast_add]; rfl
  rw [hv, Nat.add_sub_cancel]
  clear hv h1
  go_enter Tryd.func79, Tryd.ntmps79
  go_wp2
  go_ret
  exact ⟨rfl, rfl⟩

set_option maxHeartbeats 400000 in
theorem fintPrec_any (x : Nat) (w : World) (hp : PowAt w) (hx : x ≤ 9999999999999999999) :
    Calls Tryd.prog 14 #[.int .u64 x] w fun e w' => e = .returned (.int .i64 (dg x)) ∧ w = w' := by
  have h1 := Lib.hid (prec_any x w hp (by unfold p10; omega))
  go_enter Tryd.func14, Tryd.ntmps14
  go_wp2_with (first | (go_at_call 77; refine (h1.out).mono ?_; rintro e w' ⟨rfl, rfl⟩) | go_in)
  go_ret
  exact ⟨rfl, rfl⟩
end Go.Proofs.YthkmgjkajllemaaDoor.Fint
