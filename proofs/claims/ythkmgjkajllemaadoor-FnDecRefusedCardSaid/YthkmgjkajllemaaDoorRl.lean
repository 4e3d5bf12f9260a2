/- The law FnDecRefused answers true for every text. -/
import Derived.Test.YthkmgjkajllemaaDoorDp
namespace Go.Proofs.YthkmgjkajllemaaDoor.Nf
open Go.RowKit Go.Proofs.YthkmgjkajllemaaDoorW.PrintWords Go.Proofs.YthkmgjkajllemaaDoorW.PrintLast Go.Proofs.YthkmgjkajllemaaDoorW.PrintMore Go.Proofs.YthkmgjkajllemaaDoor.Tx Go.Proofs.YthkmgjkajllemaaDoor.Rd Go.Proofs.YthkmgjkajllemaaDoor.Mw Go.Proofs.YthkmgjkajllemaaDoor.Pi
set_option linter.unusedVariables false
set_option linter.unusedSimpArgs false

/-- What the law has seen of a text ahead of a place. -/
structure Seen (s : ByteArray) (i pts : Nat) (odd : Bool) : Prop where
  ascii : ∀ k : Nat, k < i → bt s (k : Int) < 128
  odd_ : odd = true → s.size = 0 ∨ ∃ k : Nat, k < i ∧ OddB (bt s (k : Int))
  one : 1 ≤ pts → ∃ k : Nat, k < i ∧ bt s (k : Int) = 46
  two : 2 ≤ pts → ∃ j k : Nat, j < k ∧ k < i ∧ bt s (j : Int) = 46 ∧ bt s (k : Int) = 46
theorem Seen.ref {s : ByteArray} {pts : Nat} {odd : Bool} (h : Seen s s.size pts odd) (hs : s.size ≤ 300) (hw : odd = true ∨ 2 ≤ pts) : Ref s := by
  refine ⟨hs, h.ascii, ?_⟩
  rcases hw with hw | hw
  · rcases h.odd_ hw with h1 | h1
    · exact .inl h1
    · exact .inr (.inl h1)
  · exact .inr (.inr (h.two hw))
theorem Seen.step {s : ByteArray} {i pts : Nat} {odd : Bool} (h : Seen s i pts odd) (ha : bt s (i : Int) < 128) (odd' : Bool) (ho : odd' = true → odd = true ∨ OddB (bt s (i : Int))) : Seen s (i + 1) pts odd' := by
  refine ⟨fun k hk => ?_, fun ho' => ?_, fun hp => ?_, fun hp => ?_⟩
  · rcases (by omega : k < i ∨ k = i) with h1 | h1
    · exact h.ascii k h1
    · subst h1; exact ha
  · rcases ho ho' with h1 | h1
    · rcases h.odd_ h1 with h2 | ⟨k, hk, h2⟩
      · exact .inl h2
      · exact .inr ⟨k, by omega, h2⟩
    · exact .inr ⟨i, by omega, h1⟩
  · obtain ⟨k, hk, h1⟩ := h.one hp
    exact ⟨k, by omega, h1⟩
  · obtain ⟨j, k, hj, hk, h1⟩ := h.two hp
    exact ⟨j, k, hj, by omega, h1⟩
theorem Seen.dot {s : ByteArray} {i pts : Nat} {odd : Bool} (h : Seen s i pts odd) (hb : bt s (i : Int) = 46) : Seen s (i + 1) (pts + 1) odd := by
  have h1 := h.step (by rw [hb]; decide) odd (fun h => .inl h)
  refine ⟨h1.ascii, h1.odd_, fun _ => ⟨i, by omega, hb⟩, fun hp => ?_⟩
  obtain ⟨k, hk, h2⟩ := h.one (by omega)
  exact ⟨k, i, hk, by omega, h2, hb⟩
/-- The signs that may stand in a number beside its digits. -/
def sg : ByteArray := ⟨#[43, 45, 46, 101, 69]⟩
theorem has_no (b : Int) (h : ∀ k : Nat, k < sg.size → ¬ bt sg (k : Int) = b) : b ≠ 43 ∧ b ≠ 45 ∧ b ≠ 46 ∧ b ≠ 101 ∧ b ≠ 69 := by
  have h0 := h 0 (by decide)
  have h1 := h 1 (by decide)
  have h2 := h 2 (by decide)
  have h3 := h 3 (by decide)
  have h4 := h 4 (by decide)
  rw [show bt sg ((0 : Nat) : Int) = 43 by decide] at h0
  rw [show bt sg ((1 : Nat) : Int) = 45 by decide] at h1
  rw [show bt sg ((2 : Nat) : Int) = 46 by decide] at h2
  rw [show bt sg ((3 : Nat) : Int) = 101 by decide] at h3
  rw [show bt sg ((4 : Nat) : Int) = 69 by decide] at h4
  omega
theorem has_sg (b : Int) (w : World) :
    Calls Tryd.prog 39 #[.string sg, .int .u8 b] w fun e w' => ∃ r : Bool, e = .returned (.bool r) ∧ (r = false → b ≠ 43 ∧ b ≠ 45 ∧ b ≠ 46 ∧ b ≠ 101 ∧ b ≠ 69) ∧ (b = 46 → r = true) ∧ w' = w := by
  refine (has_any sg b (by decide) w).mono ?_
  rintro e w' ⟨r, rfl, hr, rfl⟩
  refine ⟨r, rfl, fun h => ?_, fun h => ?_, rfl⟩
  · refine has_no b (fun k hk he => ?_)
    have := hr.2 ⟨k, hk, he⟩
    rw [h] at this
    exact absurd this (by decide)
  · exact hr.2 ⟨2, by decide, by rw [h]; decide⟩

theorem empty_size (s : ByteArray) (h : s.toList.isEmpty = true) : s.size = 0 := by
  rw [List.isEmpty_iff, Lib.toList_data] at h
  have := Lib.size_eq s
  rw [h] at this
  exact this

set_option maxHeartbeats 4000000 in
set_option maxRecDepth 100000 in
theorem law_ok (s : ByteArray) (te tn : TypeId) (pe pn : Value) (w : World) (hE : Errs w te pe tn pn) (h5 : Errs5 w) (hb8 : 8 < w.heap.size) :
    Calls Tryd.prog 9 #[.string s] w fun r w' => r = .returned (.bool true) ∧ Below w.heap.size w w' := by
  have X39 := Lib.hid (fun b W => has_sg b W)
  have X40 := Lib.hid (fun (hr : Ref s) W h1 h2 h3 => decParse_ref s te tn pe pn W hr h1 h2 h3)
  have HE := Aside0.mk hE
  have H5 := Aside0.mk h5
  have HB := Aside0.mk (Below.refl w.heap.size w)
  clear hE h5
  by_cases hbig : 2147483647 < s.size
  · have q0 : decide (2147483647 < (s.size : Int)) = true := decide_eq_true (by omega)
    clear hbig
    go_enter Tryd.func9, Tryd.ntmps9
    go_wp2
    go_ret
    exact ⟨rfl, Below.refl _ _⟩
  · have q0 : decide (2147483647 < (s.size : Int)) = false := decide_eq_false (by omega)
    go_enter Tryd.func9, Tryd.ntmps9
    go_wp2_with fail
    go_loopw [3, 4, 5] (fun v3 v4 v5 w' => ∃ (i pts : Nat) (odd : Bool), v3 = .bool odd ∧ v4 = .int .i64 pts ∧ v5 = .int .i64 i ∧ i ≤ s.size ∧ pts ≤ i ∧ Aside0 (Seen s i pts odd) ∧ Aside0 (Below w.heap.size w w')) (fun _ _ v5 _ => s.size - (intOf v5).toNat)
    case atStart => exact ⟨0, 0, s.toList.isEmpty, rfl, rfl, rfl, by omega, by omega, ⟨fun k hk => by omega, fun h => .inl (empty_size s h), fun h => by omega, fun h => by omega⟩, HB⟩
    case round =>
      clear HB
      obtain ⟨i, pts, odd, rfl, rfl, rfl, hi, hpts, HS, HBW⟩ := hrel
      by_cases hlt : i < s.size
      · obtain ⟨y, hy, hy2, hy3⟩ := bt_nat s i hlt
        have HB3 := Aside0.mk hy3
        have HY := Aside0.mk hy2
        clear hy3 hy2
        by_cases h128 : 128 ≤ y
        · have g1 : decide ((128 : Int) ≤ (y : Int)) = true := decide_eq_true (by omega)
          have g2 : (128 : Int) ≤ (y : Int) := by omega
          go_wp2_with (simp only [HB3.out])
          go_ret
          exact ⟨rfl, HBW.out⟩
        · have g1 : decide ((128 : Int) ≤ (y : Int)) = false := decide_eq_false (by omega)
          have g2 : ¬ (128 : Int) ≤ (y : Int) := by omega
          by_cases hdot : y = 46
          · subst hdot
            cases odd with
            | true =>
              go_wp2_with (simp only [HB3.out])
              go_roundw
              case rel => exact ⟨i + 1, pts + 1, true, rfl, by go_num, by go_num, by omega, by omega, ⟨HS.out.dot HY.out⟩, HBW⟩
              case measure => simp [intOf]; omega
            | false =>
              go_wp2_with (simp only [HB3.out])
              refine (X39.out _ _).mono ?_
              rintro e w2 ⟨r, rfl, hr0, hr1, rfl⟩
              have HR0 := Aside0.mk hr0
              have HR1 := Aside0.mk hr1
              clear hr0 hr1
              obtain rfl : r = true := HR1.out rfl
              go_wp2_with (simp only [HB3.out])
              go_roundw
              case rel => exact ⟨i + 1, pts + 1, false, rfl, by go_num, by go_num, by omega, by omega, ⟨HS.out.dot HY.out⟩, HBW⟩
              case measure => simp [intOf]; omega
          · have e46 : ((y : Int) == 46) = false := beq_false_of_ne (by omega)
            by_cases hd : 48 ≤ y ∧ y ≤ 57
            · have t1 : decide ((y : Int) < 48) = false := decide_eq_false (by omega)
              have t2 : decide ((57 : Int) < (y : Int)) = false := decide_eq_false (by omega)
              clear hd
              cases odd with
              | true =>
                go_wp2_with (simp only [HB3.out])
                go_roundw
                case rel => exact ⟨i + 1, pts, true, rfl, rfl, by go_num, by omega, by omega, ⟨HS.out.step (by rw [HY.out]; omega) _ (fun h => .inl h)⟩, HBW⟩
                case measure => simp [intOf]; omega
              | false =>
                go_wp2_with (simp only [HB3.out])
                go_roundw
                case rel => exact ⟨i + 1, pts, false, rfl, rfl, by go_num, by omega, by omega, ⟨HS.out.step (by rw [HY.out]; omega) _ (fun h => .inl h)⟩, HBW⟩
                case measure => simp [intOf]; omega
            · rcases (by omega : y < 48 ∨ (¬ y < 48 ∧ 57 < y)) with hlo | ⟨hlo, hhi⟩
              · have t1 : decide ((y : Int) < 48) = true := decide_eq_true (by omega)
                have t2 : decide ((57 : Int) < (y : Int)) = false := decide_eq_false (by omega)
                have HNO : Aside0 (¬ (48 ≤ y ∧ y ≤ 57)) := ⟨hd⟩
                clear hd
                cases odd with
                | true =>
                  go_wp2_with (simp only [HB3.out])
                  go_roundw
                  case rel => exact ⟨i + 1, pts, true, rfl, rfl, by go_num, by omega, by omega, ⟨HS.out.step (by rw [HY.out]; omega) _ (fun h => .inl h)⟩, HBW⟩
                  case measure => simp [intOf]; omega
                | false =>
                  go_wp2_with (simp only [HB3.out])
                  refine (X39.out _ _).mono ?_
                  rintro e w2 ⟨r, rfl, hr0, hr1, rfl⟩
                  have HR0 := Aside0.mk hr0
                  have HR1 := Aside0.mk hr1
                  clear hr0 hr1
                  cases r with
                  | true =>
                    go_wp2_with (simp only [HB3.out])
                    go_roundw
                    case rel => exact ⟨i + 1, pts, false, rfl, rfl, by go_num, by omega, by omega, ⟨HS.out.step (by rw [HY.out]; omega) _ (fun h => .inl h)⟩, HBW⟩
                    case measure => simp [intOf]; omega
                  | false =>
                    have hodd : OddB (bt s (i : Int)) := by
                      rw [HY.out]
                      exact ⟨fun h => HNO.out ⟨by omega, by omega⟩, HR0.out rfl⟩
                    have HOD := Aside0.mk hodd
                    clear hodd
                    go_wp2_with (simp only [HB3.out])
                    go_roundw
                    case rel => exact ⟨i + 1, pts, true, rfl, rfl, by go_num, by omega, by omega, ⟨HS.out.step (by rw [HY.out]; omega) true (fun _ => .inr HOD.out)⟩, HBW⟩
                    case measure => simp [intOf]; omega
              · have t1 : decide ((y : Int) < 48) = false := decide_eq_false (by omega)
                have t2 : decide ((57 : Int) < (y : Int)) = true := decide_eq_true (by omega)
                have HNO : Aside0 (¬ (48 ≤ y ∧ y ≤ 57)) := ⟨hd⟩
                clear hd
                cases odd with
                | true =>
                  go_wp2_with (simp only [HB3.out])
                  go_roundw
                  case rel => exact ⟨i + 1, pts, true, rfl, rfl, by go_num, by omega, by omega, ⟨HS.out.step (by rw [HY.out]; omega) _ (fun h => .inl h)⟩, HBW⟩
                  case measure => simp [intOf]; omega
                | false =>
                  go_wp2_with (simp only [HB3.out])
                  refine (X39.out _ _).mono ?_
                  rintro e w2 ⟨r, rfl, hr0, hr1, rfl⟩
                  have HR0 := Aside0.mk hr0
                  have HR1 := Aside0.mk hr1
                  clear hr0 hr1
                  cases r with
                  | true =>
                    go_wp2_with (simp only [HB3.out])
                    go_roundw
                    case rel => exact ⟨i + 1, pts, false, rfl, rfl, by go_num, by omega, by omega, ⟨HS.out.step (by rw [HY.out]; omega) _ (fun h => .inl h)⟩, HBW⟩
                    case measure => simp [intOf]; omega
                  | false =>
                    have hodd : OddB (bt s (i : Int)) := by
                      rw [HY.out]
                      exact ⟨fun h => HNO.out ⟨by omega, by omega⟩, HR0.out rfl⟩
                    have HOD := Aside0.mk hodd
                    clear hodd
                    go_wp2_with (simp only [HB3.out])
                    go_roundw
                    case rel => exact ⟨i + 1, pts, true, rfl, rfl, by go_num, by omega, by omega, ⟨HS.out.step (by rw [HY.out]; omega) true (fun _ => .inr HOD.out)⟩, HBW⟩
                    case measure => simp [intOf]; omega
      · obtain rfl : i = s.size := by omega
        by_cases hl : 300 < s.size
        · have g1 : decide ((300 : Int) < (s.size : Int)) = true := decide_eq_true (by omega)
          go_wp2_with fail
          go_ret
          exact ⟨rfl, HBW.out⟩
        · have g1 : decide ((300 : Int) < (s.size : Int)) = false := decide_eq_false (by omega)
          by_cases hw : odd = true ∨ 2 ≤ pts
          · have HRF := Aside0.mk (HS.out.ref (by omega) hw)
            have hp2 : odd = false → decide ((pts : Int) < 2) = false := fun h => decide_eq_false (by
              rcases hw with h1 | h1
              · rw [h] at h1; exact absurd h1 (by decide)
              · omega)
            cases odd with
            | true =>
              clear hp2 hw
              go_wp2_with fail
              refine (X40.out HRF.out wr (HE.out.below HBW.out hb8) (H5.out.below HBW.out hb8) (by have := HBW.out.size; omega)).mono ?_
              rintro e w3 ⟨rfl, hb⟩
              have HB3 := Aside0.mk (HBW.out.trans (hb.mono HBW.out.size))
              clear hb
              go_wp2_with fail
              go_ret
              exact ⟨rfl, HB3.out.alloc HB3.out.size _⟩
            | false =>
              have g2 := hp2 rfl
              clear hp2 hw
              go_wp2_with fail
              refine (X40.out HRF.out wr (HE.out.below HBW.out hb8) (H5.out.below HBW.out hb8) (by have := HBW.out.size; omega)).mono ?_
              rintro e w3 ⟨rfl, hb⟩
              have HB3 := Aside0.mk (HBW.out.trans (hb.mono HBW.out.size))
              clear hb
              go_wp2_with fail
              go_ret
              exact ⟨rfl, HB3.out.alloc HB3.out.size _⟩
          · obtain rfl : odd = false := by
              cases odd
              · rfl
              · exact absurd (.inl rfl) hw
            have g2 : decide ((pts : Int) < 2) = true := decide_eq_true (by omega)
            go_wp2_with fail
            go_ret
            exact ⟨rfl, HBW.out⟩
end Go.Proofs.YthkmgjkajllemaaDoor.Nf
