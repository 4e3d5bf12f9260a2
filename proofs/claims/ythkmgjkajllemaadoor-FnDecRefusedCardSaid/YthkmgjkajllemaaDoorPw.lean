/- Powers of ten as words; the sign ahead of a number. -/
import Derived.Test.YthkmgjkajllemaaDoorNw
import Derived.Test.YthkmgjkajllemaaDoorRd
import Derived.Test.YthkmgjkajllemaaDoorPpowx
namespace Go.Proofs.YthkmgjkajllemaaDoor.Mw
open Go.RowKit Go.Proofs.YthkmgjkajllemaaDoorW.PrintWords Go.Proofs.YthkmgjkajllemaaDoorW.PrintLast Go.Proofs.YthkmgjkajllemaaDoorW.PrintMore Go.Proofs.YthkmgjkajllemaaDoor.Tx Go.Proofs.YthkmgjkajllemaaDoor.Rd
set_option linter.unusedVariables false
set_option linter.unusedSimpArgs false

set_option maxHeartbeats 1000000 in
set_option maxRecDepth 100000 in
theorem maxPow_10 (w : World) :
    Calls Tryd.prog 129 #[.int .u64 10] w fun e w' => e = .returned (.tuple #[.int .u64 10000000000000000000, .int .i64 19]) ∧ w' = w := by
  go_enter Tryd.func129, Tryd.ntmps129
  go_wp2
  go_loop [2, 3] (fun v2 v3 => ∃ k p : Nat, k ≤ 18 ∧ p = 10 ^ (k + 1) ∧ v2 = .int .u64 p ∧ v3 = .int .i64 ((k + 1 : Nat) : Int)) (fun _ v3 => 20 - (intOf v3).toNat)
  case atStart => exact ⟨0, 10, by omega, rfl, rfl, rfl⟩
  case round =>
    obtain ⟨k, p, hk, hp, rfl, rfl⟩ := hrel
    rcases (by omega : k = 18 ∨ k < 18) with h | h
    · subst h
      obtain rfl : p = 10000000000000000000 := by rw [hp]
      go_wp2
      go_ret2
      exact ⟨rfl, rfl⟩
    · have hpb : p ≤ 1000000000000000000 := by
        rw [hp]
        exact Nat.le_trans (Nat.pow_le_pow_right (by decide) (show k + 1 ≤ 18 by omega)) (by decide)
      have HP := Aside0.mk hp
      have q1 : decide ((p : Int) ≤ 1844674407370955161) = true := decide_eq_true (by omega)
      clear hp
      go_wp2
      go_round
      case rel => exact ⟨k + 1, p * 10, by omega, by rw [HP.out, Nat.pow_succ 10 (k + 1)], by go_num, by go_num⟩
      case measure => simp [intOf]; omega

theorem pow_ten (i : Nat) (hi : i < 20) : ∃ r : Int, Ppow.bigall_pow.f 20 10 i = some r ∧ W64 r ∧ r ≠ 0 := by
  have : ∀ i : Fin 20, (match Ppow.bigall_pow.f 20 10 (i.val : Int) with | some r => decide (0 < r ∧ r < 18446744073709551616) | none => false) = true := by decide +kernel
  have h := this ⟨i, hi⟩
  simp only at h
  split at h
  · rename_i r hr
    have h2 := of_decide_eq_true h
    exact ⟨r, hr, ⟨by omega, h2.2⟩, by omega⟩
  · exact absurd h (by decide)
theorem pow_any (i : Nat) (hi : i < 20) (w : World) :
    Calls Tryd.prog 131 #[.int .u64 10, .int .i64 i] w fun e w' => ∃ r : Int, e = .returned (.int .u64 r) ∧ W64 r ∧ r ≠ 0 ∧ Below w.heap.size w w' := by
  obtain ⟨r, h, h1, h2⟩ := pow_ten i hi
  refine (Ppow.bigall_pow.calls 20 10 i r w h).mono ?_
  rintro e w' ⟨rfl, hd⟩
  exact ⟨r, rfl, h1, h2, hd.below⟩

theorem NatV.only {w w1 : World} {b g : Nat} {v : Value} {n : Nat} (h : NatV w b v n) (ho : Only g w w1) (hg : g < b) : NatV w1 b v n := by
  refine h.imp id (fun ⟨g', cap, h1, h2, h3, h4, h5⟩ => ⟨g', cap, h1, h2, h3, h4, ?_⟩)
  obtain ⟨cells, h6, h7⟩ := h5
  exact ⟨cells, (ho g' (by omega)).trans h6, h7⟩
theorem meth_read (x : Value) (w : World) : (method 327 146 x "ReadByte").run Tryd.prog w = .ok (190, x) w := by kernel_rfl
theorem meth_unread (x : Value) (w : World) : (method 327 146 x "UnreadByte").run Tryd.prog w = .ok (191, x) w := by kernel_rfl
set_option maxHeartbeats 1000000 in
set_option maxRecDepth 100000 in
theorem scanSign_any (g b : Nat) (s : ByteArray) (w : World) (h : At w g s 0) (hs0 : 0 < s.size) (hs : s.size < 1000000) (hb : b ≤ g) (hbs : b ≤ w.heap.size) :
    Calls Tryd.prog 126 #[.iface 146 (.pointer (some ⟨g, 0, none⟩))] w fun e w' => ∃ neg p, e = .returned (.tuple #[.bool neg, .nilIface]) ∧ At w' g s p ∧ (p = 0 ∨ (p = 1 ∧ (bt s 0 = 43 ∨ bt s 0 = 45))) ∧ Below b w w' := by
  have HR := Lib.hid (fun W hW => readByte_in g s 0 b W hW hs0 hs hb)
  have HU := Lib.hid (fun W hW => unread_any g s 0 b W hW hs0 hs hb)
  have HA := Aside0.mk h
  clear h
  have m1 := meth_read
  have m2 := meth_unread
  go_enter Tryd.func126, Tryd.ntmps126
  obtain ⟨y, hy, hy2, -⟩ := bt_nat s 0 hs0
  rw [show ((0 : Nat) : Int) = 0 from rfl] at hy2
  rw [show ((0 : Nat) : Int) = 0 from rfl, hy2] at HR
  have HY := Aside0.mk hy2
  clear hy2
  go_wp2_with fail
  refine (HR.out w HA.out).mono ?_
  rintro e w2 ⟨rfl, h2, hb2, -⟩
  have H2 := Aside0.mk h2
  have HB2 := Aside0.mk hb2
  clear h2 hb2
  by_cases hm : y = 45
  · subst hm
    go_wp2_with fail
    go_ret2
    exact ⟨_, 1, rfl, H2.out, .inr ⟨rfl, .inr HY.out⟩, HB2.out⟩
  · by_cases hp : y = 43
    · subst hp
      go_wp2_with fail
      go_ret2
      exact ⟨_, 1, rfl, H2.out, .inr ⟨rfl, .inl HY.out⟩, HB2.out⟩
    · have q1 : ((y : Int) == 45) = false := beq_false_of_ne (by omega)
      have q2 : ((y : Int) == 43) = false := beq_false_of_ne (by omega)
      go_wp2_with fail
      refine (HU.out w2 H2.out).mono ?_
      rintro e w3 ⟨rfl, h3, hb3, -⟩
      have H3 := Aside0.mk h3
      have HB3 := Aside0.mk (HB2.out.trans hb3)
      clear h3 hb3
      go_wp2_with fail
      go_ret2
      exact ⟨_, 0, rfl, H3.out, .inl rfl, HB3.out⟩
end Go.Proofs.YthkmgjkajllemaaDoor.Mw
