/- The law FnFintDigits answers true for every input, where the table of powers of ten lies in memory. -/
import Derived.Test.YthkmgjkajllemaaDoorFint
import Derived.Test.YthkmgjkajllemaaDoorStr
import Derived.Test.YthkmgjkajllemaaDoorPgvMostx
namespace Go.Proofs.YthkmgjkajllemaaDoor.Digits
open Go.RowKit Go.Proofs.YthkmgjkajllemaaDoorW.PrintWords Go.Proofs.YthkmgjkajllemaaDoorW.PrintLast Go.Proofs.YthkmgjkajllemaaDoorW.PrintMore Go.Proofs.YthkmgjkajllemaaDoor.Num Go.Proofs.YthkmgjkajllemaaDoor.Str Go.Proofs.YthkmgjkajllemaaDoor.Fint
set_option linter.unusedVariables false
set_option linter.unusedSimpArgs false

theorem C_one {k : IntKind} {w : World} {g : Nat} {x : Int} (h : w.cell? ⟨g, 0, none⟩ = some (.int k x)) : (Kd.int k).C w (some ⟨g, 0, none⟩) 1 [x] :=
  Kd.C_of_reads (enc := Value.int k) (d := (0 : Int)) ⟨rfl, by omega, fun _ => ⟨_, rfl, fun j hj => by
    obtain rfl : j = 0 := by omega
    simpa [add_plain] using h⟩⟩

theorem gvMost_any (x : Nat) (w : World) (g : Nat) (h : w.cell? ⟨g, 0, none⟩ = some (.int .u64 x)) :
    Calls Tryd.prog 10 #[.slice (some ⟨g, 0, none⟩) 1 1] w fun e w' => e = .returned (.bool (decide (x ≤ 9999999999999999999))) ∧ Drawn0 w w' := by
  refine PgvMost.laws_gvMost.calls 2 _ 1 [(x : Int)] _ w (C_one h) (by simp) ?_
  unfold PgvMost.laws_gvMost.f
  by_cases hx : x ≤ 9999999999999999999
  · rw [PgvMost.laws_gvMost.l0, if_pos (by simp), if_pos (by omega), if_pos (by simp), if_neg (by simp [rd]; omega), PgvMost.laws_gvMost.l0, if_neg (by simp [wrap64])]
    simp [hx]
  · rw [PgvMost.laws_gvMost.l0, if_pos (by simp), if_pos (by omega), if_pos (by simp), if_pos (by simp [rd]; omega)]
    simp [hx]

set_option maxHeartbeats 400000 in
theorem fintZeros_any (x : Nat) (w : World) (hp : PowAt w) (hx : x ≤ 9999999999999999999) :
    Calls Tryd.prog 15 #[.int .u64 x] w fun e w' => e = .returned (.int .i64 (tz x)) ∧ w = w' := by
  have h1 := Lib.hid (ntz_any x w hp (by unfold p10; omega))
  go_enter Tryd.func15, Tryd.ntmps15
  go_wp2_with (first | (go_at_call 78; refine (h1.out).mono ?_; rintro e w' ⟨rfl, rfl⟩) | go_in)
  go_ret
  exact ⟨rfl, rfl⟩
set_option maxHeartbeats 400000 in
theorem fintHasPrec_any (x p : Nat) (w : World) (hp : PowAt w) (hx : x ≤ 9999999999999999999) (h1 : 1 ≤ p) (h2 : p ≤ 20) :
    Calls Tryd.prog 16 #[.int .u64 x, .int .i64 p] w fun e w' => e = .returned (.bool (decide (p10 (p - 1) ≤ (x : Int)))) ∧ w = w' := by
  have h1 := Lib.hid (hasPrec_any x p w hp h1 h2)
  go_enter Tryd.func16, Tryd.ntmps16
  go_wp2_with (first | (go_at_call 79; refine (h1.out).mono ?_; rintro e w' ⟨rfl, rfl⟩) | go_in)
  go_ret
  exact ⟨rfl, rfl⟩

/-- The byte of a number's text that stands z places before its end. -/
theorem text_at (n z : Nat) (hn : 0 < n) (hz : z < (decs n).length) (h : (text n).size - 1 - z < (text n).size) : ((text n)[(text n).size - 1 - z]'h).toNat = 48 + n / 10 ^ z % 10 := by
  have e : text n = strOfNums (decs n).reverse := by unfold text; rw [if_neg (by omega)]
  have hs := text_size n hn
  have hd := decs_at n z hz
  generalize hk : (text n).size - 1 - z = k at h
  have hk2 : k = (decs n).length - 1 - z := by omega
  have hlt : k < (decs n).reverse.length := by simp; omega
  have hb : ((text n)[k]'h) = UInt8.ofNat ((decs n).reverse[k]'hlt).toNat := by
    have : (text n)[k]'h = (text n).data[k]'h := rfl
    rw [this]
    simp only [e, strOfNums]
    simp
  rw [hb]
  have hr : (decs n).reverse[k]'hlt = ((48 + n / 10 ^ z % 10 : Nat) : Int) := by
    rw [List.getElem_reverse, ← hd, List.getD_eq_getElem?_getD, List.getElem?_eq_getElem hz]
    simp only [Option.getD_some]
    congr 1
    omega
  rw [hr, Int.toNat_natCast]
  rw [UInt8.toNat_ofNat']
  have : n / 10 ^ z % 10 < 10 := Nat.mod_lt _ (by decide)
  omega

/-- Whether a number has at least p digits is told by a power of ten. -/
theorem has_iff (x p : Nat) (h : 1 ≤ p) : decide (p10 (p - 1) ≤ (x : Int)) = decide ((p : Int) ≤ dg x) := by
  have := dg_le x (p - 1)
  apply decide_eq_decide.2
  omega

theorem PowAt_below {w w' : World} (h : PowAt w) (h0 : 0 < w.heap.size) (hb : Below w.heap.size w w') : PowAt w' := fun i hi => (hb.cell (p := ⟨0, i, none⟩) h0).trans (h i hi)

theorem hundred (w : World) (hp : PowAt w) : Calls Tryd.prog 14 #[.int .u64 100] w fun e w' => e = .returned (.int .i64 3) ∧ w = w' := by
  have h := fintPrec_any 100 w hp (by omega)
  rw [show dg 100 = 3 by simp [dg]] at h
  exact h

set_option maxHeartbeats 4000000 in
set_option maxRecDepth 100000 in
theorem law_in (x p : Nat) (w : World) (hp : PowAt w) (hb : 0 < w.heap.size) (hx : x ≤ 9999999999999999999) (hpos : 0 < x) (h1 : 1 ≤ p) (h2 : p ≤ 19) :
    Calls Tryd.prog 3 #[.int .u64 x, .int .i64 p] w fun e w' => e = .returned (.bool true) ∧ Below w.heap.size w w' := by
  have HP := Aside0.mk hp
  have HM := Aside0.mk (gvMost_any x)
  have hxm : decide (x ≤ 9999999999999999999) = true := decide_eq_true hx
  rw [hxm] at HM
  clear hp hxm
  have g1 : decide ((p : Int) < 1) = false := decide_eq_false (by omega)
  have g2 : decide ((19 : Int) < p) = false := decide_eq_false (by omega)
  have hl3 : (limbs x).length ≤ 3 := limbs_length 3 x (by omega)
  have hs := text_size x
  have hbyte := text_at x
  have hdg : dg x ≤ 19 := (dg_le x 19).2 (by unfold p10; omega)
  have hst := natString_any x
  have hdt := natDigits_any x
  have hhas := fun W hW => fintHasPrec_any x p W hW hx h1 (by omega)
  rw [has_iff x p h1] at hhas
  have HH := Aside0.mk hhas
  clear hhas
  generalize text x = s at hs hbyte hst
  rw [dg_decs] at hs hbyte hdt
  have HS := Aside0.mk hs
  have HBY := Aside0.mk hbyte
  have HST := Aside0.mk hst
  have HDT := Aside0.mk hdt
  clear hs hbyte hst hdt
  go_enter Tryd.func3, Tryd.ntmps3
  go_wp2_with (first | (go_at_call 10; refine (HM.out _ _ (by go_simp)).mono ?_; rintro e w' ⟨rfl, hd⟩; obtain ⟨q, rfl⟩ := hd.out; clear hd) | (go_at_call 11; refine (natFrom_any x _ (by omega)).mono ?_; rintro e w1 ⟨v, rfl, hn, hb1⟩; have HN := Aside0.mk hn; have HB1 := Aside0.mk ((pw_below_drewN (below_alloc (Below.refl w.heap.size w) (.cells #[.int .u64 x] 22)) q).trans (hb1.mono (by simp))); clear hn hb1) | (go_at_call 12; refine (HST.out _ _ HN.out (by omega)).mono ?_; rintro e w2 ⟨rfl, hb2⟩; have HB2 := Aside0.mk (HB1.out.trans (hb2.mono HB1.out.size)); clear hb2 HB1 HN))
  go_loop [6] (fun v6 => ∃ z : Nat, z ≤ tz x ∧ v6 = .int .i64 z) (fun v6 => dg x - (intOf v6).toNat)
  case atStart => exact ⟨0, by omega, rfl⟩
  case round =>
    obtain ⟨z, hz, rfl⟩ := hrel
    by_cases hmore : 0 < x ∧ z < tz x
    · obtain ⟨hx0, hzl⟩ := hmore
      have hzt := tz_lt x hx0
      have hsz := HS.out hx0
      have hi : s.size - 1 - z < s.size := by omega
      have hby := HBY.out z hx0 (by omega) hi
      rw [(tz_digit x z hx0).1 hzl] at hby
      have hb8 : (((s[s.size - 1 - z]'hi).toNat : Int) == 48) = true := by rw [hby]; rfl
      clear hby
      simp only [hsz] at hb8
      go_wp2
      go_round
      case rel => exact ⟨z + 1, by omega, by go_num⟩
      case measure => simp [intOf]; omega
    · have hzz : z = tz x := by
        rcases Nat.eq_zero_or_pos x with h | h
        · have : tz x = 0 := by rw [h, tz]; rfl
          omega
        · omega
      by_cases hx0 : 0 < x
      · have hzt := tz_lt x hx0
        have hsz := HS.out hx0
        have hi : s.size - 1 - z < s.size := by omega
        have hby := HBY.out z hx0 (by omega) hi
        have hd0 := (tz_digit x z hx0).2 hzz
        have hb8 : (((s[s.size - 1 - z]'hi).toNat : Int) == 48) = false := by
          rw [hby, beq_eq_false_iff_ne]
          omega
        clear hby hd0 hmore
        simp only [hsz] at hb8
        subst hzz
        clear hz
        go_wp2_with (first | (go_at_call 11; refine (natFrom_any x _ (by omega)).mono ?_; rintro e w3 ⟨v2, rfl, hn, hb1⟩; have HN := Aside0.mk hn; have HB3 := Aside0.mk (HB2.out.trans (hb1.mono HB2.out.size)); clear hn hb1) | (go_at_call 13; refine (HDT.out _ _ HN.out (by omega)).mono ?_; rintro e w4 ⟨rfl, hb1⟩; have HB4 := Aside0.mk (HB3.out.trans (hb1.mono HB3.out.size)); have HP4 := Aside0.mk (PowAt_below HP.out hb HB4.out); clear hb1) | (go_at_call 15; refine (fintZeros_any x _ HP4.out hx).mono ?_; rintro e w' ⟨rfl, rfl⟩) | (go_at_call 16; refine (HH.out _ HP4.out).mono ?_; rintro e w' ⟨rfl, rfl⟩) | (go_at_call 14; refine (fintPrec_any x _ HP4.out hx).mono ?_; rintro e w' ⟨rfl, rfl⟩))
        refine (hundred _ HP4.out).mono ?_
        rintro e w' ⟨rfl, rfl⟩
        go_wp2
        go_ret
        exact ⟨rfl, HB4.out⟩
      · exact absurd hpos hx0

set_option maxHeartbeats 4000000 in
set_option maxRecDepth 100000 in
theorem law_zero (p : Nat) (w : World) (hp : PowAt w) (hb : 0 < w.heap.size) (h1 : 1 ≤ p) (h2 : p ≤ 19) :
    Calls Tryd.prog 3 #[.int .u64 0, .int .i64 p] w fun e w' => e = .returned (.bool true) ∧ Below w.heap.size w w' := by
  have HP := Aside0.mk hp
  have HM : Aside0 (∀ (W : World) (g : Nat), W.cell? ⟨g, 0, none⟩ = some (.int .u64 0) → Calls Tryd.prog 10 #[.slice (some ⟨g, 0, none⟩) 1 1] W fun e w' => e = .returned (.bool true) ∧ Drawn0 W w') := ⟨fun W g hc => gvMost_any 0 W g hc⟩
  clear hp
  have g1 : decide ((p : Int) < 1) = false := decide_eq_false (by omega)
  have g2 : decide ((19 : Int) < p) = false := decide_eq_false (by omega)
  have g3 : decide ((p : Int) ≤ 0) = false := decide_eq_false (by omega)
  have d0 : dg 0 = 0 := by rw [dg]
  have t0 : tz 0 = 0 := by rw [tz]; rfl
  have l0 : (limbs 0).length < 1000000000 := by rw [limbs_zero]; decide
  have HF : Aside0 (∀ W : World, Calls Tryd.prog 11 #[.int .u64 0] W fun e w' => ∃ v, e = .returned v ∧ IsNat w' v 0 ∧ Below W.heap.size W w') := ⟨fun W => natFrom_any 0 W (by omega)⟩
  have HST := Aside0.mk (natString_any 0)
  have HDT : Aside0 (∀ (v : Value) (W : World), IsNat W v 0 → Calls Tryd.prog 13 #[v] W fun e w' => e = .returned (.int .i64 0) ∧ Below W.heap.size W w') := ⟨fun v W h => by
    have := natDigits_any 0 v W h l0
    rw [decs_zero] at this
    exact this⟩
  have HPR : Aside0 (∀ W, PowAt W → Calls Tryd.prog 14 #[.int .u64 0] W fun e w' => e = .returned (.int .i64 0) ∧ W = w') := ⟨fun W h => by
    have := fintPrec_any 0 W h (by omega)
    rw [d0] at this
    exact this⟩
  have HZ : Aside0 (∀ W, PowAt W → Calls Tryd.prog 15 #[.int .u64 0] W fun e w' => e = .returned (.int .i64 0) ∧ W = w') := ⟨fun W h => by
    have := fintZeros_any 0 W h (by omega)
    rw [t0] at this
    exact this⟩
  have HH : Aside0 (∀ W, PowAt W → Calls Tryd.prog 16 #[.int .u64 0, .int .i64 p] W fun e w' => e = .returned (.bool false) ∧ W = w') := ⟨fun W h => by
    have := fintHasPrec_any 0 p W h (by omega) h1 (by omega)
    rw [has_iff 0 p h1, d0] at this
    exact g3 ▸ this⟩
  clear d0 t0
  go_enter Tryd.func3, Tryd.ntmps3
  go_wp2_with (first | (go_at_call 10; refine (HM.out _ _ (by go_simp)).mono ?_; rintro e w' ⟨rfl, hd⟩; obtain ⟨q, rfl⟩ := hd.out; clear hd) | (go_at_call 11; refine (HF.out _).mono ?_; rintro e w1 ⟨v, rfl, hn, hb1⟩; have HN := Aside0.mk hn; have HB1 := Aside0.mk ((pw_below_drewN (below_alloc (Below.refl w.heap.size w) (.cells #[.int .u64 0] 22)) q).trans (hb1.mono (by simp))); clear hn hb1) | (go_at_call 12; refine (HST.out _ _ HN.out l0).mono ?_; rintro e w2 ⟨rfl, hb2⟩; have HB2 := Aside0.mk (HB1.out.trans (hb2.mono HB1.out.size)); clear hb2 HB1 HN))
  refine wp_loop_rounds 1 ?_
  rw [rounds_succ]
  go_wp2_with (first | (go_at_call 11; refine (HF.out _).mono ?_; rintro e w3 ⟨v2, rfl, hn, hb1⟩; have HN := Aside0.mk hn; have HB3 := Aside0.mk (HB2.out.trans (hb1.mono HB2.out.size)); clear hn hb1) | (go_at_call 13; refine (HDT.out _ _ HN.out).mono ?_; rintro e w4 ⟨rfl, hb1⟩; have HB4 := Aside0.mk (HB3.out.trans (hb1.mono HB3.out.size)); have HP4 := Aside0.mk (PowAt_below HP.out hb HB4.out); clear hb1) | (go_at_call 15; refine (HZ.out _ HP4.out).mono ?_; rintro e w' ⟨rfl, rfl⟩) | (go_at_call 16; refine (HH.out _ HP4.out).mono ?_; rintro e w' ⟨rfl, rfl⟩) | (go_at_call 14; refine (HPR.out _ HP4.out).mono ?_; rintro e w' ⟨rfl, rfl⟩))
  refine (hundred _ HP4.out).mono ?_
  rintro e w' ⟨rfl, rfl⟩
  go_wp2
  go_ret
  exact ⟨rfl, HB4.out⟩

/-- The law, for every input. -/
theorem law_any (x : Nat) (p : Int) (w : World) (hp : PowAt w) (hb : 0 < w.heap.size) :
    Calls Tryd.prog 3 #[.int .u64 x, .int .i64 p] w fun e w' => e = .returned (.bool true) ∧ Below w.heap.size w w' := by
  by_cases hx : x ≤ 9999999999999999999
  · by_cases h1 : 1 ≤ p
    · by_cases h2 : p ≤ 19
      · obtain ⟨q, rfl⟩ := Int.eq_ofNat_of_zero_le (show 0 ≤ p by omega)
        rcases Nat.eq_zero_or_pos x with h | h
        · subst h
          exact law_zero q w hp hb (by omega) (by omega)
        · exact law_in x q w hp hb hx h (by omega) (by omega)
      · have HM := Aside0.mk (gvMost_any x)
        have hxm : decide (x ≤ 9999999999999999999) = true := decide_eq_true hx
        rw [hxm] at HM
        clear hxm hx hp
        go_enter Tryd.func3, Tryd.ntmps3
        go_wp2_with (first | (go_at_call 10; refine (HM.out _ _ (by go_simp)).mono ?_; rintro e w' ⟨rfl, hd⟩; obtain ⟨q, rfl⟩ := hd.out; clear hd))
        go_ret
        exact ⟨rfl, pw_below_drewN (below_alloc (Below.refl w.heap.size w) _) q⟩
    · have HM := Aside0.mk (gvMost_any x)
      have hxm : decide (x ≤ 9999999999999999999) = true := decide_eq_true hx
      rw [hxm] at HM
      clear hxm hx hp
      go_enter Tryd.func3, Tryd.ntmps3
      go_wp2_with (first | (go_at_call 10; refine (HM.out _ _ (by go_simp)).mono ?_; rintro e w' ⟨rfl, hd⟩; obtain ⟨q, rfl⟩ := hd.out; clear hd))
      go_ret
      exact ⟨rfl, pw_below_drewN (below_alloc (Below.refl w.heap.size w) _) q⟩
  · have HM := Aside0.mk (gvMost_any x)
    have hxm : decide (x ≤ 9999999999999999999) = false := decide_eq_false hx
    rw [hxm] at HM
    clear hxm hx hp
    go_enter Tryd.func3, Tryd.ntmps3
    go_wp2_with (first | (go_at_call 10; refine (HM.out _ _ (by go_simp)).mono ?_; rintro e w' ⟨rfl, hd⟩; obtain ⟨q, rfl⟩ := hd.out; clear hd))
    go_ret
    exact ⟨rfl, pw_below_drewN (below_alloc (Below.refl w.heap.size w) _) q⟩
end Go.Proofs.YthkmgjkajllemaaDoor.Digits
