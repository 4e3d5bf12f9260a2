/- Small functions over texts: Has, zzReplaceAll, parseInt64SkipIndex, errors.New. -/
import Derived.Test.YthkmgjkajllemaaDoorPNatFromx
import Derived.Lib.Hide
import Derived.Outline
import Derived.Below
import Derived.RegionTactic
namespace Go.Proofs.YthkmgjkajllemaaDoor.Tx
open Go.RowKit Go.Proofs.YthkmgjkajllemaaDoorW.PrintWords Go.Proofs.YthkmgjkajllemaaDoorW.PrintLast Go.Proofs.YthkmgjkajllemaaDoorW.PrintMore
set_option linter.unusedVariables false
set_option linter.unusedSimpArgs false

/-- A byte that stands in no number. -/
def OddB (b : Int) : Prop := ¬ (48 ≤ b ∧ b ≤ 57) ∧ b ≠ 43 ∧ b ≠ 45 ∧ b ≠ 46 ∧ b ≠ 101 ∧ b ≠ 69
theorem bt_nat (s : ByteArray) (k : Nat) (h : k < s.size) : ∃ y : Nat, y < 256 ∧ bt s (k : Int) = y ∧ ((s[k]'h).toNat : Int) = (y : Int) := by
  refine ⟨(s[k]'h).toNat, (s[k]'h).toNat_lt, ?_, rfl⟩
  exact (bt_at s k (by omega)).symm

set_option maxHeartbeats 1000000 in
set_option maxRecDepth 100000 in
theorem has_any (s : ByteArray) (b : Int) (hs : s.size < 1000000) (w : World) :
    Calls Tryd.prog 39 #[.string s, .int .u8 b] w fun e w' => ∃ r : Bool, e = .returned (.bool r) ∧ (r = true ↔ ∃ k : Nat, k < s.size ∧ bt s (k : Int) = b) ∧ w' = w := by
  go_enter Tryd.func39, Tryd.ntmps39
  go_wp2
  go_loop [5] (fun v5 => ∃ i : Nat, v5 = .int .i64 i ∧ i ≤ s.size ∧ Aside0 (∀ k : Nat, k < i → bt s (k : Int) ≠ b)) (fun v5 => s.size - (intOf v5).toNat)
  case atStart => exact ⟨0, rfl, by omega, ⟨fun k hk => by omega⟩⟩
  case round =>
    obtain ⟨i, rfl, hi, HK⟩ := hrel
    by_cases hlt : i < s.size
    · obtain ⟨y, hy, hy2, hy3⟩ := bt_nat s i hlt
      have HB3 := Aside0.mk hy3
      have HY2 := Aside0.mk hy2
      clear hy3 hy2
      by_cases hyb : (y : Int) = b
      · have g1 : ((y : Int) == b) = true := beq_iff_eq.2 hyb
        have HYB := Aside0.mk hyb
        clear hyb
        go_wp2_with (simp only [HB3.out])
        go_ret
        exact .inr ⟨rfl, ⟨i, hlt, HY2.out.trans HYB.out⟩, rfl⟩
      · have g1 : ((y : Int) == b) = false := beq_false_of_ne hyb
        have HYB := Aside0.mk hyb
        clear hyb
        go_wp2_with (simp only [HB3.out])
        go_round
        case rel => exact ⟨i + 1, by go_num, by omega, ⟨fun k hk => by
          rcases (by omega : k < i ∨ k = i) with h | h
          · exact HK.out k h
          · subst h; rw [HY2.out]; exact HYB.out⟩⟩
        case measure => simp [intOf]; omega
    · go_wp2
      go_ret
      exact .inl ⟨rfl, fun k hk => HK.out k (by omega), rfl⟩

set_option maxHeartbeats 1000000 in
set_option maxRecDepth 100000 in
/-- A text with a byte in it that is no digit: no number. -/
theorem skip_odd (s : ByteArray) (skip : Int) (k : Nat) (hk : k < s.size) (hodd : OddB (bt s (k : Int))) (hks : (k : Int) ≠ skip) (hs : s.size < 1000000) (w : World) :
    Calls Tryd.prog 99 #[.string s, .int .i64 skip] w fun e w' => ∃ n : Int, e = .returned (.tuple #[.int .i64 n, .bool false]) ∧ Below w.heap.size w w' := by
  obtain ⟨y0, hy0, hy02, hy03⟩ := bt_nat s 0 (by omega)
  have HB0 := Aside0.mk hy03
  have hsp : decide (0 < (s.size : Int)) = true := decide_eq_true (by omega)
  have HO := Aside0.mk hodd
  have hk0 : y0 = 43 ∨ y0 = 45 → 1 ≤ k := by
    intro h
    rcases Nat.eq_zero_or_pos k with hz | hz
    · subst hz
      rw [show ((0 : Nat) : Int) = 0 from rfl] at hodd
      rw [show ((0 : Nat) : Int) = 0 from rfl] at hy02
      rw [hy02] at hodd
      obtain ⟨-, h1, h2, -⟩ := hodd
      omega
    · exact hz
  clear hodd hy03 hy02
  by_cases hsk : skip = 0
  · subst hsk
    clear hk0
    go_enter Tryd.func99, Tryd.ntmps99
    go_wp2_with (simp only [HB0.out])
    go_loop [6, 8, 9] (fun v6 v8 v9 => ∃ (i : Nat) (n d : Int), v6 = .int .i64 i ∧ v8 = .int .i64 n ∧ v9 = .int .i64 d ∧ i ≤ k) (fun v6 _ _ => s.size - (intOf v6).toNat)
    case atStart => exact ⟨0, 0, 0, rfl, rfl, rfl, by omega⟩
    case round =>
      obtain ⟨i, n, d, rfl, rfl, rfl, hik⟩ := hrel
      have hlt : i < s.size := by omega
      obtain ⟨y, hy, hy2, hy3⟩ := bt_nat s i hlt
      have HB3 := Aside0.mk hy3
      have hl1 : decide ((i : Int) < (s.size : Int)) = true := decide_eq_true (by omega)
      clear hy3
      by_cases hskip : (i : Int) = 0
      · have g1 : ((i : Int) == 0) = true := beq_iff_eq.2 hskip
        have hk1 : i + 1 ≤ k := by
          rcases (by omega : i < k ∨ i = k) with h | h
          · omega
          · subst h; exact absurd hskip hks
        clear hskip hy2
        go_wp2_with (simp only [HB3.out])
        go_round
        case rel => exact ⟨i + 1, n, d, by go_num, rfl, rfl, hk1⟩
        case measure => simp [intOf]; omega
      · have g1 : ((i : Int) == 0) = false := beq_false_of_ne hskip
        by_cases hlo : y < 48
        · have g2 : decide ((y : Int) < 48) = true := decide_eq_true (by omega)
          clear hskip hy2
          go_wp2_with (simp only [HB3.out])
          go_ret2
          exact ⟨⟨_, rfl⟩, Below.refl _ _⟩
        · by_cases hhi : 57 < y
          · have g2 : decide ((y : Int) < 48) = false := decide_eq_false (by omega)
            have g3 : decide ((57 : Int) < (y : Int)) = true := decide_eq_true (by omega)
            clear hskip hy2
            go_wp2_with (simp only [HB3.out])
            go_ret2
            exact ⟨⟨_, rfl⟩, Below.refl _ _⟩
          · have g2 : decide ((y : Int) < 48) = false := decide_eq_false (by omega)
            have g3 : decide ((57 : Int) < (y : Int)) = false := decide_eq_false (by omega)
            have g4 : (48 : Int) ≤ (y : Int) := by omega
            have g5 : ¬ (57 : Int) < (y : Int) := by omega
            have hk1 : i + 1 ≤ k := by
              rcases (by omega : i < k ∨ i = k) with h | h
              · omega
              · subst h
                have h1 := HO.out.1
                rw [hy2] at h1
                exact absurd ⟨by omega, by omega⟩ h1
            clear hskip hy2
            go_wp2_with (simp only [HB3.out])
            go_round
            case rel => exact ⟨i + 1, _, _, by go_num, rfl, rfl, hk1⟩
            case measure => simp [intOf]; omega
  · have q0 : (skip == 0) = false := beq_false_of_ne hsk
    have q00 : (skip != 0) = true := bne_iff_ne.2 hsk
    by_cases hp : y0 = 43
    · subst hp
      have hk1 := hk0 (by omega)
      clear hk0
      go_enter Tryd.func99, Tryd.ntmps99
      go_wp2_with (simp only [HB0.out])
      go_region
      go_wp2
      go_loop [6, 8, 9] (fun v6 v8 v9 => ∃ (i : Nat) (n d : Int), v6 = .int .i64 i ∧ v8 = .int .i64 n ∧ v9 = .int .i64 d ∧ i ≤ k) (fun v6 _ _ => s.size - (intOf v6).toNat)
      case atStart => exact ⟨1, 0, 0, rfl, rfl, rfl, by omega⟩
      case round =>
        obtain ⟨i, n, d, rfl, rfl, rfl, hik⟩ := hrel
        have hlt : i < s.size := by omega
        obtain ⟨y, hy, hy2, hy3⟩ := bt_nat s i hlt
        have HB3 := Aside0.mk hy3
        have hl1 : decide ((i : Int) < (s.size : Int)) = true := decide_eq_true (by omega)
        clear hy3
        by_cases hskip : (i : Int) = skip
        · have g1 : ((i : Int) == skip) = true := beq_iff_eq.2 hskip
          have hk1 : i + 1 ≤ k := by
            rcases (by omega : i < k ∨ i = k) with h | h
            · omega
            · subst h; exact absurd hskip hks
          clear hskip hy2
          go_wp2_with (simp only [HB3.out])
          go_round
          case rel => exact ⟨i + 1, n, d, by go_num, rfl, rfl, hk1⟩
          case measure => simp [intOf]; omega
        · have g1 : ((i : Int) == skip) = false := beq_false_of_ne hskip
          by_cases hlo : y < 48
          · have g2 : decide ((y : Int) < 48) = true := decide_eq_true (by omega)
            clear hskip hy2
            go_wp2_with (simp only [HB3.out])
            go_ret2
            exact ⟨⟨_, rfl⟩, below_drew (Below.refl _ _)⟩
          · by_cases hhi : 57 < y
            · have g2 : decide ((y : Int) < 48) = false := decide_eq_false (by omega)
              have g3 : decide ((57 : Int) < (y : Int)) = true := decide_eq_true (by omega)
              clear hskip hy2
              go_wp2_with (simp only [HB3.out])
              go_ret2
              exact ⟨⟨_, rfl⟩, below_drew (Below.refl _ _)⟩
            · have g2 : decide ((y : Int) < 48) = false := decide_eq_false (by omega)
              have g3 : decide ((57 : Int) < (y : Int)) = false := decide_eq_false (by omega)
              have g4 : (48 : Int) ≤ (y : Int) := by omega
              have g5 : ¬ (57 : Int) < (y : Int) := by omega
              have hk1 : i + 1 ≤ k := by
                rcases (by omega : i < k ∨ i = k) with h | h
                · omega
                · subst h
                  have h1 := HO.out.1
                  rw [hy2] at h1
                  exact absurd ⟨by omega, by omega⟩ h1
              clear hskip hy2
              go_wp2_with (simp only [HB3.out])
              go_round
              case rel => exact ⟨i + 1, _, _, by go_num, rfl, rfl, hk1⟩
              case measure => simp [intOf]; omega
    · by_cases hm : y0 = 45
      · subst hm
        have hk1 := hk0 (by omega)
        clear hk0
        go_enter Tryd.func99, Tryd.ntmps99
        go_wp2_with (simp only [HB0.out])
        go_region
        go_wp2
        go_loop [6, 8, 9] (fun v6 v8 v9 => ∃ (i : Nat) (n d : Int), v6 = .int .i64 i ∧ v8 = .int .i64 n ∧ v9 = .int .i64 d ∧ i ≤ k) (fun v6 _ _ => s.size - (intOf v6).toNat)
        case atStart => exact ⟨1, 0, 0, rfl, rfl, rfl, by omega⟩
        case round =>
          obtain ⟨i, n, d, rfl, rfl, rfl, hik⟩ := hrel
          have hlt : i < s.size := by omega
          obtain ⟨y, hy, hy2, hy3⟩ := bt_nat s i hlt
          have HB3 := Aside0.mk hy3
          have hl1 : decide ((i : Int) < (s.size : Int)) = true := decide_eq_true (by omega)
          clear hy3
          by_cases hskip : (i : Int) = skip
          · have g1 : ((i : Int) == skip) = true := beq_iff_eq.2 hskip
            have hk1 : i + 1 ≤ k := by
              rcases (by omega : i < k ∨ i = k) with h | h
              · omega
              · subst h; exact absurd hskip hks
            clear hskip hy2
            go_wp2_with (simp only [HB3.out])
            go_round
            case rel => exact ⟨i + 1, n, d, by go_num, rfl, rfl, hk1⟩
            case measure => simp [intOf]; omega
          · have g1 : ((i : Int) == skip) = false := beq_false_of_ne hskip
            by_cases hlo : y < 48
            · have g2 : decide ((y : Int) < 48) = true := decide_eq_true (by omega)
              clear hskip hy2
              go_wp2_with (simp only [HB3.out])
              go_ret2
              exact ⟨⟨_, rfl⟩, below_drew (Below.refl _ _)⟩
            · by_cases hhi : 57 < y
              · have g2 : decide ((y : Int) < 48) = false := decide_eq_false (by omega)
                have g3 : decide ((57 : Int) < (y : Int)) = true := decide_eq_true (by omega)
                clear hskip hy2
                go_wp2_with (simp only [HB3.out])
                go_ret2
                exact ⟨⟨_, rfl⟩, below_drew (Below.refl _ _)⟩
              · have g2 : decide ((y : Int) < 48) = false := decide_eq_false (by omega)
                have g3 : decide ((57 : Int) < (y : Int)) = false := decide_eq_false (by omega)
                have g4 : (48 : Int) ≤ (y : Int) := by omega
                have g5 : ¬ (57 : Int) < (y : Int) := by omega
                have hk1 : i + 1 ≤ k := by
                  rcases (by omega : i < k ∨ i = k) with h | h
                  · omega
                  · subst h
                    have h1 := HO.out.1
                    rw [hy2] at h1
                    exact absurd ⟨by omega, by omega⟩ h1
                clear hskip hy2
                go_wp2_with (simp only [HB3.out])
                go_round
                case rel => exact ⟨i + 1, _, _, by go_num, rfl, rfl, hk1⟩
                case measure => simp [intOf]; omega
      · have q1 : ((y0 : Int) == 43) = false := beq_false_of_ne (by omega)
        have q2 : ((y0 : Int) == 45) = false := beq_false_of_ne (by omega)
        clear hk0 hp hm
        go_enter Tryd.func99, Tryd.ntmps99
        go_wp2_with (simp only [HB0.out])
        go_loop [6, 8, 9] (fun v6 v8 v9 => ∃ (i : Nat) (n d : Int), v6 = .int .i64 i ∧ v8 = .int .i64 n ∧ v9 = .int .i64 d ∧ i ≤ k) (fun v6 _ _ => s.size - (intOf v6).toNat)
        case atStart => exact ⟨0, 0, 0, rfl, rfl, rfl, by omega⟩
        case round =>
          obtain ⟨i, n, d, rfl, rfl, rfl, hik⟩ := hrel
          have hlt : i < s.size := by omega
          obtain ⟨y, hy, hy2, hy3⟩ := bt_nat s i hlt
          have HB3 := Aside0.mk hy3
          have hl1 : decide ((i : Int) < (s.size : Int)) = true := decide_eq_true (by omega)
          clear hy3
          by_cases hskip : (i : Int) = skip
          · have g1 : ((i : Int) == skip) = true := beq_iff_eq.2 hskip
            have hk1 : i + 1 ≤ k := by
              rcases (by omega : i < k ∨ i = k) with h | h
              · omega
              · subst h; exact absurd hskip hks
            clear hskip hy2
            go_wp2_with (simp only [HB3.out])
            go_round
            case rel => exact ⟨i + 1, n, d, by go_num, rfl, rfl, hk1⟩
            case measure => simp [intOf]; omega
          · have g1 : ((i : Int) == skip) = false := beq_false_of_ne hskip
            by_cases hlo : y < 48
            · have g2 : decide ((y : Int) < 48) = true := decide_eq_true (by omega)
              clear hskip hy2
              go_wp2_with (simp only [HB3.out])
              go_ret2
              exact ⟨⟨_, rfl⟩, Below.refl _ _⟩
            · by_cases hhi : 57 < y
              · have g2 : decide ((y : Int) < 48) = false := decide_eq_false (by omega)
                have g3 : decide ((57 : Int) < (y : Int)) = true := decide_eq_true (by omega)
                clear hskip hy2
                go_wp2_with (simp only [HB3.out])
                go_ret2
                exact ⟨⟨_, rfl⟩, Below.refl _ _⟩
              · have g2 : decide ((y : Int) < 48) = false := decide_eq_false (by omega)
                have g3 : decide ((57 : Int) < (y : Int)) = false := decide_eq_false (by omega)
                have g4 : (48 : Int) ≤ (y : Int) := by omega
                have g5 : ¬ (57 : Int) < (y : Int) := by omega
                have hk1 : i + 1 ≤ k := by
                  rcases (by omega : i < k ∨ i = k) with h | h
                  · omega
                  · subst h
                    have h1 := HO.out.1
                    rw [hy2] at h1
                    exact absurd ⟨by omega, by omega⟩ h1
                clear hskip hy2
                go_wp2_with (simp only [HB3.out])
                go_round
                case rel => exact ⟨i + 1, _, _, by go_num, rfl, rfl, hk1⟩
                case measure => simp [intOf]; omega
end Go.Proofs.YthkmgjkajllemaaDoor.Tx
