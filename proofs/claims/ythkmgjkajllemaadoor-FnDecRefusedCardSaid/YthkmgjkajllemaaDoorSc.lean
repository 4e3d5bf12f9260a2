/- nat.scan of a text with a byte in it that is no digit stops ahead of its end. -/
import Derived.Test.YthkmgjkajllemaaDoorPw
import Derived.LaidEql
namespace Go.Proofs.YthkmgjkajllemaaDoor.Mw
open Go.RowKit Go.Proofs.YthkmgjkajllemaaDoorW.PrintWords Go.Proofs.YthkmgjkajllemaaDoorW.PrintLast Go.Proofs.YthkmgjkajllemaaDoorW.PrintMore Go.Proofs.YthkmgjkajllemaaDoor.Tx Go.Proofs.YthkmgjkajllemaaDoor.Rd
set_option linter.unusedVariables false
set_option linter.unusedSimpArgs false

/-- The package's and the library's errors that scanning meets. -/
structure Errs (w : World) (te : TypeId) (pe : Value) (tn : TypeId) (pn : Value) : Prop where
  eof : w.cell? ⟨4, 0, none⟩ = some (.iface te pe)
  dig : w.cell? ⟨8, 0, none⟩ = some (.iface tn pn)
theorem Errs.below {w w1 : World} {b : Nat} {te : TypeId} {pe : Value} {tn : TypeId} {pn : Value} (h : Errs w te pe tn pn) (hb : Below b w w1) (hb8 : 8 < b) : Errs w1 te pe tn pn :=
  ⟨(hb.cell (p := ⟨4, 0, none⟩) (by show 4 < b; omega)).trans h.eof, (hb.cell (p := ⟨8, 0, none⟩) hb8).trans h.dig⟩

set_option maxHeartbeats 4000000 in
set_option maxRecDepth 100000 in
theorem scan_any (g b k p0 : Nat) (s : ByteArray) (te tn : TypeId) (pe pn : Value) (w : World) (h : At w g s p0) (hpk : p0 ≤ k) (hk : k < s.size) (hodd : ¬ (48 ≤ bt s (k : Int) ∧ bt s (k : Int) ≤ 57)) (hs : s.size < 400) (hE : Errs w te pe tn pn) (hb8 : 8 < b) (hb : b ≤ g) (hbs : b ≤ w.heap.size) :
    Calls Tryd.prog 127 #[.slice none 0 0, .iface 146 (.pointer (some ⟨g, 0, none⟩)), .int .i64 10, .bool false] w fun e w' => ∃ v' n' c err q, e = .returned (.tuple #[v', .int .i64 10, .int .i64 c, err]) ∧ (err = .nilIface ∨ err = .iface tn pn) ∧ NatV w' (g + 1) v' n' ∧ At w' g s q ∧ q ≤ k ∧ Below b w w' := by
  have HR := Lib.hid (fun p (hp : p < s.size) W hW => readByte_in g s p b W hW hp (by omega) hb)
  have HU := Lib.hid (fun p (hp : p < s.size) W hW => unread_any g s p b W hW hp (by omega) hb)
  have HMP := Lib.hid (fun W => maxPow_10 W)
  have HPW := Lib.hid (fun i (hi : i < 20) W => pow_any i hi W)
  have HMA := Lib.hid (fun v n y r W (hW : g + 1 ≤ W.heap.size) h1 h2 h3 h4 h5 => mulAddWW_any v n (g + 1) y r W h1 h2 h3 h4 h5 hW)
  have HER := Aside0.mk hE
  have HO := Aside0.mk hodd
  have HA := Aside0.mk h
  have hnl : ∀ W, (binOp .eql 76 .nilIface (.iface te pe)).run Tryd.prog W = .ok (.bool false) W := fun W => run_eql_iface_nil_left W te pe Tryd.underlying76
  have m1 := meth_read
  have m2 := meth_unread
  clear h hodd hE
  go_enter Tryd.func127, Tryd.ntmps127
  go_wp2_with fail
  refine (HR.out p0 (by omega) w HA.out).mono ?_
  rintro e w2 ⟨rfl, h2, hb2, -⟩
  have H2 := Aside0.mk h2
  have HB2 := Aside0.mk hb2
  clear h2 hb2
  go_wp2_with fail
  refine (HMP.out w2).mono ?_
  rintro e w3 ⟨rfl, rfl⟩
  go_wp2_with fail
  obtain ⟨y0, hy0, hy02, -⟩ := bt_nat s p0 (by omega)
  rw [hy02]
  have HY0 := Aside0.mk hy02
  clear hy02
  go_loopw [0, 3, 10, 11, 13, 14, 15, 20, 21, 22] (fun v0 v3 v10 v11 v13 v14 v15 v20 v21 v22 w' => ∃ (p c i n y : Nat) (di pv : Int), v3 = .bool false ∧ v10 = .int .i64 c ∧ v11 = .nilIface ∧ v13 = .int .i32 pv ∧ v14 = .bool false ∧ v15 = .int .u8 y ∧ v20 = .int .u64 di ∧ v21 = .int .i64 i ∧ v22 = .int .i64 (-1) ∧ p ≤ k ∧ c ≤ p ∧ i ≤ c ∧ i < 19 ∧ n ≤ p ∧ y < 256 ∧ Aside0 (bt s (p : Int) = y) ∧ Aside0 (pv ≠ 95) ∧ Aside0 (W64 di) ∧ Aside0 (NatV w' (g + 1) v0 n) ∧ Aside0 (At w' g s (p + 1)) ∧ Aside0 (Below b w w')) (fun v0 v3 v10 v11 v13 v14 v15 v20 v21 v22 w' => 1000 - (intOf v10).toNat)
  case atStart => exact ⟨p0, 0, 0, 0, y0, 0, 46, rfl, rfl, rfl, rfl, rfl, rfl, rfl, rfl, rfl, hpk, by omega, by omega, by omega, by omega, hy0, HY0, ⟨by decide⟩, ⟨by unfold W64; omega⟩, ⟨.inl ⟨rfl, rfl⟩⟩, H2, HB2⟩
  case round =>
    clear HY0 hy0 H2 HB2 HA
    obtain ⟨p, c, i, n, y, di, pv, rfl, rfl, rfl, rfl, rfl, rfl, rfl, rfl, rfl, hp, hc, hic, hi, hn, hy, HY, HPV, HD, HZ, HAT, HB⟩ := hrel
    by_cases hd : 48 ≤ y ∧ y ≤ 57
    · have hpk2 : p < k := by
        rcases (by omega : p < k ∨ p = k) with h | h
        · exact h
        · subst h
          have h1 := HO.out
          rw [HY.out] at h1
          exact absurd ⟨by omega, by omega⟩ h1
      have q1 : decide ((48 : Int) ≤ (y : Int)) = true := decide_eq_true (by omega)
      have q2 : decide ((y : Int) ≤ 57) = true := decide_eq_true (by omega)
      have q3 : ((y : Int) == 46) = false := beq_false_of_ne (by omega)
      have q4 : ((y : Int) == 95) = false := beq_false_of_ne (by omega)
      have k1 : (48 : Int) ≤ (y : Int) := by omega
      have k2 : (y : Int) ≤ 57 := by omega
      have k3 : ¬ (10 : Int) ≤ (y : Int) - 48 := by omega
      have k4 : decide ((10 : Int) ≤ (y : Int) - 48) = false := decide_eq_false k3
      by_cases hi18 : i = 18
      · subst hi18
        have HSZ := Aside0.mk HAT.out.lt
        clear hd
        go_wp2_with fail
        refine (HMA.out _ n _ _ _ HSZ.out HZ.out (by omega) (by unfold W64; omega) (by omega) (wrap_W64 _)).mono ?_
        rintro e w4 ⟨v4, n4, rfl, hz4, hn4, hb4⟩
        have HZ4 := Aside0.mk hz4
        have HAT4 := Aside0.mk (HAT.out.keep hb4 (by omega))
        have HB4 := Aside0.mk (HB.out.trans (hb4.mono (by omega)))
        clear hz4 hb4
        go_wp2_with fail
        refine (HR.out (p + 1) (by omega) _ HAT4.out).mono ?_
        rintro e w5 ⟨rfl, h5, hb5, ho5⟩
        obtain ⟨y1, hy1, hy2, -⟩ := bt_nat s (p + 1) (by omega)
        rw [hy2]
        have HY2 := Aside0.mk hy2
        have H5 := Aside0.mk h5
        have HB5 := Aside0.mk (HB4.out.trans hb5)
        have HZ5 := Aside0.mk (HZ4.out.only ho5 (by omega))
        clear h5 hb5 ho5 hy2
        go_wp2_with fail
        go_roundw
        case rel => exact ⟨p + 1, c + 1, 0, n4, y1, 0, 48, rfl, by go_num, rfl, rfl, rfl, rfl, rfl, rfl, rfl, by omega, by omega, by omega, by omega, by omega, hy1, HY2, ⟨by decide⟩, ⟨by unfold W64; omega⟩, HZ5, H5, HB5⟩
        case measure => simp [intOf]; omega
      · have q5 : (((i + 1 : Nat) : Int) == 19) = false := beq_false_of_ne (by omega)
        have q6 : ((i : Int) + 1 == 19) = false := beq_false_of_ne (by omega)
        clear hd
        go_wp2_with fail
        refine (HR.out (p + 1) (by omega) _ HAT.out).mono ?_
        rintro e w5 ⟨rfl, h5, hb5, ho5⟩
        obtain ⟨y1, hy1, hy2, -⟩ := bt_nat s (p + 1) (by omega)
        rw [hy2]
        have HY2 := Aside0.mk hy2
        have H5 := Aside0.mk h5
        have HB5 := Aside0.mk (HB.out.trans hb5)
        have HZ5 := Aside0.mk (HZ.out.only ho5 (by omega))
        clear h5 hb5 ho5 hy2
        go_wp2_with fail
        go_roundw
        case rel => exact ⟨p + 1, c + 1, i + 1, n, y1, _, 48, rfl, by go_num, rfl, rfl, rfl, rfl, rfl, by go_num, rfl, by omega, by omega, by omega, by omega, by omega, hy1, HY2, ⟨by decide⟩, ⟨wrap_W64 _⟩, HZ5, H5, HB5⟩
        case measure => simp [intOf]; omega
    · rcases (by omega : (y < 48 ∧ y ≠ 46) ∨ (57 < y ∧ y < 65) ∨ (65 ≤ y ∧ y ≤ 90) ∨ (90 < y ∧ y < 97 ∧ y ≠ 95) ∨ (97 ≤ y ∧ y ≤ 122) ∨ 122 < y ∨ y = 46 ∨ y = 95) with hr | hr | hr | hr | hr | hr | hr | hr
      · have t0 : decide ((48 : Int) ≤ (y : Int)) = false := decide_eq_false (by omega)
        have t1 : decide ((y : Int) ≤ 57) = true := decide_eq_true (by omega)
        have t2 : decide ((97 : Int) ≤ (y : Int)) = false := decide_eq_false (by omega)
        have t3 : decide ((y : Int) ≤ 122) = true := decide_eq_true (by omega)
        have t4 : decide ((65 : Int) ≤ (y : Int)) = false := decide_eq_false (by omega)
        have t5 : decide ((y : Int) ≤ 90) = true := decide_eq_true (by omega)
        have t6 : ((y : Int) == 46) = false := beq_false_of_ne (by omega)
        have t7 : ((y : Int) == 95) = false := beq_false_of_ne (by omega)
        have HZS := Aside0.mk HAT.out.lt
        clear hd
        go_wp2_with fail
        refine (HU.out p (by omega) _ HAT.out).mono ?_
        rintro e w5 ⟨rfl, h5, hb5, ho5⟩
        have H5 := Aside0.mk h5
        have HB5 := Aside0.mk (HB.out.trans hb5)
        have HZ5 := Aside0.mk (HZ.out.only ho5 (by omega))
        obtain ⟨c4, c8⟩ := HER.out.below HB5.out hb8
        have hpv : (pv == 95) = false := beq_false_of_ne HPV.out
        clear h5 hb5 ho5
        go_wp2_with fail
        · have hi20 : i < 20 := by omega
          refine (HPW.out i hi20 w5).mono ?_
          rintro e w6 ⟨r, rfl, hr1, hr2, hb6⟩
          have HR1 := Aside0.mk hr1
          have HR2 := Aside0.mk hr2
          have HZ6 := Aside0.mk (HZ5.out.below hb6)
          have HAT6 := Aside0.mk (H5.out.below hb6)
          have HB6 := Aside0.mk (HB5.out.trans (hb6.mono (by have := H5.out.lt; omega)))
          clear hr1 hr2 hb6
          go_wp2_with fail
          refine (HMA.out _ n _ _ _ HAT6.out.lt HZ6.out (by omega) HR1.out HR2.out HD.out).mono ?_
          rintro e w7 ⟨v7, n7, rfl, hz7, hn7, hb7⟩
          have HZ7 := Aside0.mk hz7
          have HAT7 := Aside0.mk (HAT6.out.keep hb7 (by omega))
          have HB7 := Aside0.mk (HB6.out.trans (hb7.mono (by omega)))
          clear hz7 hb7
          go_wp2_with fail
          exact bodyPost_ret (v := .tuple #[v7, .int .i64 10, .int .i64 c, .iface tn pn]) (by simp [results, Tryd.results127, go_sem]) rfl ⟨_, _, _, _, p, rfl, .inr rfl, HZ7.out, HAT7.out, hp, HB7.out⟩
        · exact bodyPost_ret (v := .tuple #[u0, .int .i64 10, .int .i64 c, .iface tn pn]) (by simp [results, Tryd.results127, go_sem]) rfl ⟨_, _, _, _, p, rfl, .inr rfl, HZ5.out, H5.out, hp, HB5.out⟩
        · have hi20 : i < 20 := by omega
          refine (HPW.out i hi20 w5).mono ?_
          rintro e w6 ⟨r, rfl, hr1, hr2, hb6⟩
          have HR1 := Aside0.mk hr1
          have HR2 := Aside0.mk hr2
          have HZ6 := Aside0.mk (HZ5.out.below hb6)
          have HAT6 := Aside0.mk (H5.out.below hb6)
          have HB6 := Aside0.mk (HB5.out.trans (hb6.mono (by have := H5.out.lt; omega)))
          clear hr1 hr2 hb6
          go_wp2_with fail
          refine (HMA.out _ n _ _ _ HAT6.out.lt HZ6.out (by omega) HR1.out HR2.out HD.out).mono ?_
          rintro e w7 ⟨v7, n7, rfl, hz7, hn7, hb7⟩
          have HZ7 := Aside0.mk hz7
          have HAT7 := Aside0.mk (HAT6.out.keep hb7 (by omega))
          have HB7 := Aside0.mk (HB6.out.trans (hb7.mono (by omega)))
          clear hz7 hb7
          go_wp2_with fail
          exact bodyPost_ret (v := .tuple #[v7, .int .i64 10, .int .i64 c, .nilIface]) (by simp [results, Tryd.results127, go_sem]) rfl ⟨_, _, _, _, p, rfl, .inl rfl, HZ7.out, HAT7.out, hp, HB7.out⟩
        · exact bodyPost_ret (v := .tuple #[u0, .int .i64 10, .int .i64 c, .nilIface]) (by simp [results, Tryd.results127, go_sem]) rfl ⟨_, _, _, _, p, rfl, .inl rfl, HZ5.out, H5.out, hp, HB5.out⟩
      · have t0 : decide ((48 : Int) ≤ (y : Int)) = true := decide_eq_true (by omega)
        have t1 : decide ((y : Int) ≤ 57) = false := decide_eq_false (by omega)
        have t2 : decide ((97 : Int) ≤ (y : Int)) = false := decide_eq_false (by omega)
        have t3 : decide ((y : Int) ≤ 122) = true := decide_eq_true (by omega)
        have t4 : decide ((65 : Int) ≤ (y : Int)) = false := decide_eq_false (by omega)
        have t5 : decide ((y : Int) ≤ 90) = true := decide_eq_true (by omega)
        have t6 : ((y : Int) == 46) = false := beq_false_of_ne (by omega)
        have t7 : ((y : Int) == 95) = false := beq_false_of_ne (by omega)
        have HZS := Aside0.mk HAT.out.lt
        clear hd
        go_wp2_with fail
        refine (HU.out p (by omega) _ HAT.out).mono ?_
        rintro e w5 ⟨rfl, h5, hb5, ho5⟩
        have H5 := Aside0.mk h5
        have HB5 := Aside0.mk (HB.out.trans hb5)
        have HZ5 := Aside0.mk (HZ.out.only ho5 (by omega))
        obtain ⟨c4, c8⟩ := HER.out.below HB5.out hb8
        have hpv : (pv == 95) = false := beq_false_of_ne HPV.out
        clear h5 hb5 ho5
        go_wp2_with fail
        · have hi20 : i < 20 := by omega
          refine (HPW.out i hi20 w5).mono ?_
          rintro e w6 ⟨r, rfl, hr1, hr2, hb6⟩
          have HR1 := Aside0.mk hr1
          have HR2 := Aside0.mk hr2
          have HZ6 := Aside0.mk (HZ5.out.below hb6)
          have HAT6 := Aside0.mk (H5.out.below hb6)
          have HB6 := Aside0.mk (HB5.out.trans (hb6.mono (by have := H5.out.lt; omega)))
          clear hr1 hr2 hb6
          go_wp2_with fail
          refine (HMA.out _ n _ _ _ HAT6.out.lt HZ6.out (by omega) HR1.out HR2.out HD.out).mono ?_
          rintro e w7 ⟨v7, n7, rfl, hz7, hn7, hb7⟩
          have HZ7 := Aside0.mk hz7
          have HAT7 := Aside0.mk (HAT6.out.keep hb7 (by omega))
          have HB7 := Aside0.mk (HB6.out.trans (hb7.mono (by omega)))
          clear hz7 hb7
          go_wp2_with fail
          exact bodyPost_ret (v := .tuple #[v7, .int .i64 10, .int .i64 c, .iface tn pn]) (by simp [results, Tryd.results127, go_sem]) rfl ⟨_, _, _, _, p, rfl, .inr rfl, HZ7.out, HAT7.out, hp, HB7.out⟩
        · exact bodyPost_ret (v := .tuple #[u0, .int .i64 10, .int .i64 c, .iface tn pn]) (by simp [results, Tryd.results127, go_sem]) rfl ⟨_, _, _, _, p, rfl, .inr rfl, HZ5.out, H5.out, hp, HB5.out⟩
        · have hi20 : i < 20 := by omega
          refine (HPW.out i hi20 w5).mono ?_
          rintro e w6 ⟨r, rfl, hr1, hr2, hb6⟩
          have HR1 := Aside0.mk hr1
          have HR2 := Aside0.mk hr2
          have HZ6 := Aside0.mk (HZ5.out.below hb6)
          have HAT6 := Aside0.mk (H5.out.below hb6)
          have HB6 := Aside0.mk (HB5.out.trans (hb6.mono (by have := H5.out.lt; omega)))
          clear hr1 hr2 hb6
          go_wp2_with fail
          refine (HMA.out _ n _ _ _ HAT6.out.lt HZ6.out (by omega) HR1.out HR2.out HD.out).mono ?_
          rintro e w7 ⟨v7, n7, rfl, hz7, hn7, hb7⟩
          have HZ7 := Aside0.mk hz7
          have HAT7 := Aside0.mk (HAT6.out.keep hb7 (by omega))
          have HB7 := Aside0.mk (HB6.out.trans (hb7.mono (by omega)))
          clear hz7 hb7
          go_wp2_with fail
          exact bodyPost_ret (v := .tuple #[v7, .int .i64 10, .int .i64 c, .nilIface]) (by simp [results, Tryd.results127, go_sem]) rfl ⟨_, _, _, _, p, rfl, .inl rfl, HZ7.out, HAT7.out, hp, HB7.out⟩
        · exact bodyPost_ret (v := .tuple #[u0, .int .i64 10, .int .i64 c, .nilIface]) (by simp [results, Tryd.results127, go_sem]) rfl ⟨_, _, _, _, p, rfl, .inl rfl, HZ5.out, H5.out, hp, HB5.out⟩
      · have t0 : decide ((48 : Int) ≤ (y : Int)) = true := decide_eq_true (by omega)
        have t1 : decide ((y : Int) ≤ 57) = false := decide_eq_false (by omega)
        have t2 : decide ((97 : Int) ≤ (y : Int)) = false := decide_eq_false (by omega)
        have t3 : decide ((y : Int) ≤ 122) = true := decide_eq_true (by omega)
        have t4 : decide ((65 : Int) ≤ (y : Int)) = true := decide_eq_true (by omega)
        have t5 : decide ((y : Int) ≤ 90) = true := decide_eq_true (by omega)
        have t6 : ((y : Int) == 46) = false := beq_false_of_ne (by omega)
        have t7 : ((y : Int) == 95) = false := beq_false_of_ne (by omega)
        have u1 : (65 : Int) ≤ (y : Int) := by omega
        have u2 : (y : Int) ≤ 90 := by omega
        have u3 : (10 : Int) ≤ (y : Int) - 65 + 10 := by omega
        have u4 : decide ((10 : Int) ≤ (y : Int) - 65 + 10) = true := decide_eq_true u3
        have HZS := Aside0.mk HAT.out.lt
        clear hd
        go_wp2_with fail
        refine (HU.out p (by omega) _ HAT.out).mono ?_
        rintro e w5 ⟨rfl, h5, hb5, ho5⟩
        have H5 := Aside0.mk h5
        have HB5 := Aside0.mk (HB.out.trans hb5)
        have HZ5 := Aside0.mk (HZ.out.only ho5 (by omega))
        obtain ⟨c4, c8⟩ := HER.out.below HB5.out hb8
        have hpv : (pv == 95) = false := beq_false_of_ne HPV.out
        clear h5 hb5 ho5
        go_wp2_with fail
        · have hi20 : i < 20 := by omega
          refine (HPW.out i hi20 w5).mono ?_
          rintro e w6 ⟨r, rfl, hr1, hr2, hb6⟩
          have HR1 := Aside0.mk hr1
          have HR2 := Aside0.mk hr2
          have HZ6 := Aside0.mk (HZ5.out.below hb6)
          have HAT6 := Aside0.mk (H5.out.below hb6)
          have HB6 := Aside0.mk (HB5.out.trans (hb6.mono (by have := H5.out.lt; omega)))
          clear hr1 hr2 hb6
          go_wp2_with fail
          refine (HMA.out _ n _ _ _ HAT6.out.lt HZ6.out (by omega) HR1.out HR2.out HD.out).mono ?_
          rintro e w7 ⟨v7, n7, rfl, hz7, hn7, hb7⟩
          have HZ7 := Aside0.mk hz7
          have HAT7 := Aside0.mk (HAT6.out.keep hb7 (by omega))
          have HB7 := Aside0.mk (HB6.out.trans (hb7.mono (by omega)))
          clear hz7 hb7
          go_wp2_with fail
          exact bodyPost_ret (v := .tuple #[v7, .int .i64 10, .int .i64 c, .iface tn pn]) (by simp [results, Tryd.results127, go_sem]) rfl ⟨_, _, _, _, p, rfl, .inr rfl, HZ7.out, HAT7.out, hp, HB7.out⟩
        · exact bodyPost_ret (v := .tuple #[u0, .int .i64 10, .int .i64 c, .iface tn pn]) (by simp [results, Tryd.results127, go_sem]) rfl ⟨_, _, _, _, p, rfl, .inr rfl, HZ5.out, H5.out, hp, HB5.out⟩
        · have hi20 : i < 20 := by omega
          refine (HPW.out i hi20 w5).mono ?_
          rintro e w6 ⟨r, rfl, hr1, hr2, hb6⟩
          have HR1 := Aside0.mk hr1
          have HR2 := Aside0.mk hr2
          have HZ6 := Aside0.mk (HZ5.out.below hb6)
          have HAT6 := Aside0.mk (H5.out.below hb6)
          have HB6 := Aside0.mk (HB5.out.trans (hb6.mono (by have := H5.out.lt; omega)))
          clear hr1 hr2 hb6
          go_wp2_with fail
          refine (HMA.out _ n _ _ _ HAT6.out.lt HZ6.out (by omega) HR1.out HR2.out HD.out).mono ?_
          rintro e w7 ⟨v7, n7, rfl, hz7, hn7, hb7⟩
          have HZ7 := Aside0.mk hz7
          have HAT7 := Aside0.mk (HAT6.out.keep hb7 (by omega))
          have HB7 := Aside0.mk (HB6.out.trans (hb7.mono (by omega)))
          clear hz7 hb7
          go_wp2_with fail
          exact bodyPost_ret (v := .tuple #[v7, .int .i64 10, .int .i64 c, .nilIface]) (by simp [results, Tryd.results127, go_sem]) rfl ⟨_, _, _, _, p, rfl, .inl rfl, HZ7.out, HAT7.out, hp, HB7.out⟩
        · exact bodyPost_ret (v := .tuple #[u0, .int .i64 10, .int .i64 c, .nilIface]) (by simp [results, Tryd.results127, go_sem]) rfl ⟨_, _, _, _, p, rfl, .inl rfl, HZ5.out, H5.out, hp, HB5.out⟩
      · have t0 : decide ((48 : Int) ≤ (y : Int)) = true := decide_eq_true (by omega)
        have t1 : decide ((y : Int) ≤ 57) = false := decide_eq_false (by omega)
        have t2 : decide ((97 : Int) ≤ (y : Int)) = false := decide_eq_false (by omega)
        have t3 : decide ((y : Int) ≤ 122) = true := decide_eq_true (by omega)
        have t4 : decide ((65 : Int) ≤ (y : Int)) = true := decide_eq_true (by omega)
        have t5 : decide ((y : Int) ≤ 90) = false := decide_eq_false (by omega)
        have t6 : ((y : Int) == 46) = false := beq_false_of_ne (by omega)
        have t7 : ((y : Int) == 95) = false := beq_false_of_ne (by omega)
        have HZS := Aside0.mk HAT.out.lt
        clear hd
        go_wp2_with fail
        refine (HU.out p (by omega) _ HAT.out).mono ?_
        rintro e w5 ⟨rfl, h5, hb5, ho5⟩
        have H5 := Aside0.mk h5
        have HB5 := Aside0.mk (HB.out.trans hb5)
        have HZ5 := Aside0.mk (HZ.out.only ho5 (by omega))
        obtain ⟨c4, c8⟩ := HER.out.below HB5.out hb8
        have hpv : (pv == 95) = false := beq_false_of_ne HPV.out
        clear h5 hb5 ho5
        go_wp2_with fail
        · have hi20 : i < 20 := by omega
          refine (HPW.out i hi20 w5).mono ?_
          rintro e w6 ⟨r, rfl, hr1, hr2, hb6⟩
          have HR1 := Aside0.mk hr1
          have HR2 := Aside0.mk hr2
          have HZ6 := Aside0.mk (HZ5.out.below hb6)
          have HAT6 := Aside0.mk (H5.out.below hb6)
          have HB6 := Aside0.mk (HB5.out.trans (hb6.mono (by have := H5.out.lt; omega)))
          clear hr1 hr2 hb6
          go_wp2_with fail
          refine (HMA.out _ n _ _ _ HAT6.out.lt HZ6.out (by omega) HR1.out HR2.out HD.out).mono ?_
          rintro e w7 ⟨v7, n7, rfl, hz7, hn7, hb7⟩
          have HZ7 := Aside0.mk hz7
          have HAT7 := Aside0.mk (HAT6.out.keep hb7 (by omega))
          have HB7 := Aside0.mk (HB6.out.trans (hb7.mono (by omega)))
          clear hz7 hb7
          go_wp2_with fail
          exact bodyPost_ret (v := .tuple #[v7, .int .i64 10, .int .i64 c, .iface tn pn]) (by simp [results, Tryd.results127, go_sem]) rfl ⟨_, _, _, _, p, rfl, .inr rfl, HZ7.out, HAT7.out, hp, HB7.out⟩
        · exact bodyPost_ret (v := .tuple #[u0, .int .i64 10, .int .i64 c, .iface tn pn]) (by simp [results, Tryd.results127, go_sem]) rfl ⟨_, _, _, _, p, rfl, .inr rfl, HZ5.out, H5.out, hp, HB5.out⟩
        · have hi20 : i < 20 := by omega
          refine (HPW.out i hi20 w5).mono ?_
          rintro e w6 ⟨r, rfl, hr1, hr2, hb6⟩
          have HR1 := Aside0.mk hr1
          have HR2 := Aside0.mk hr2
          have HZ6 := Aside0.mk (HZ5.out.below hb6)
          have HAT6 := Aside0.mk (H5.out.below hb6)
          have HB6 := Aside0.mk (HB5.out.trans (hb6.mono (by have := H5.out.lt; omega)))
          clear hr1 hr2 hb6
          go_wp2_with fail
          refine (HMA.out _ n _ _ _ HAT6.out.lt HZ6.out (by omega) HR1.out HR2.out HD.out).mono ?_
          rintro e w7 ⟨v7, n7, rfl, hz7, hn7, hb7⟩
          have HZ7 := Aside0.mk hz7
          have HAT7 := Aside0.mk (HAT6.out.keep hb7 (by omega))
          have HB7 := Aside0.mk (HB6.out.trans (hb7.mono (by omega)))
          clear hz7 hb7
          go_wp2_with fail
          exact bodyPost_ret (v := .tuple #[v7, .int .i64 10, .int .i64 c, .nilIface]) (by simp [results, Tryd.results127, go_sem]) rfl ⟨_, _, _, _, p, rfl, .inl rfl, HZ7.out, HAT7.out, hp, HB7.out⟩
        · exact bodyPost_ret (v := .tuple #[u0, .int .i64 10, .int .i64 c, .nilIface]) (by simp [results, Tryd.results127, go_sem]) rfl ⟨_, _, _, _, p, rfl, .inl rfl, HZ5.out, H5.out, hp, HB5.out⟩
      · have t0 : decide ((48 : Int) ≤ (y : Int)) = true := decide_eq_true (by omega)
        have t1 : decide ((y : Int) ≤ 57) = false := decide_eq_false (by omega)
        have t2 : decide ((97 : Int) ≤ (y : Int)) = true := decide_eq_true (by omega)
        have t3 : decide ((y : Int) ≤ 122) = true := decide_eq_true (by omega)
        have t4 : decide ((65 : Int) ≤ (y : Int)) = true := decide_eq_true (by omega)
        have t5 : decide ((y : Int) ≤ 90) = false := decide_eq_false (by omega)
        have t6 : ((y : Int) == 46) = false := beq_false_of_ne (by omega)
        have t7 : ((y : Int) == 95) = false := beq_false_of_ne (by omega)
        have u1 : (97 : Int) ≤ (y : Int) := by omega
        have u2 : (y : Int) ≤ 122 := by omega
        have u3 : (10 : Int) ≤ (y : Int) - 97 + 10 := by omega
        have u4 : decide ((10 : Int) ≤ (y : Int) - 97 + 10) = true := decide_eq_true u3
        have HZS := Aside0.mk HAT.out.lt
        clear hd
        go_wp2_with fail
        refine (HU.out p (by omega) _ HAT.out).mono ?_
        rintro e w5 ⟨rfl, h5, hb5, ho5⟩
        have H5 := Aside0.mk h5
        have HB5 := Aside0.mk (HB.out.trans hb5)
        have HZ5 := Aside0.mk (HZ.out.only ho5 (by omega))
        obtain ⟨c4, c8⟩ := HER.out.below HB5.out hb8
        have hpv : (pv == 95) = false := beq_false_of_ne HPV.out
        clear h5 hb5 ho5
        go_wp2_with fail
        · have hi20 : i < 20 := by omega
          refine (HPW.out i hi20 w5).mono ?_
          rintro e w6 ⟨r, rfl, hr1, hr2, hb6⟩
          have HR1 := Aside0.mk hr1
          have HR2 := Aside0.mk hr2
          have HZ6 := Aside0.mk (HZ5.out.below hb6)
          have HAT6 := Aside0.mk (H5.out.below hb6)
          have HB6 := Aside0.mk (HB5.out.trans (hb6.mono (by have := H5.out.lt; omega)))
          clear hr1 hr2 hb6
          go_wp2_with fail
          refine (HMA.out _ n _ _ _ HAT6.out.lt HZ6.out (by omega) HR1.out HR2.out HD.out).mono ?_
          rintro e w7 ⟨v7, n7, rfl, hz7, hn7, hb7⟩
          have HZ7 := Aside0.mk hz7
          have HAT7 := Aside0.mk (HAT6.out.keep hb7 (by omega))
          have HB7 := Aside0.mk (HB6.out.trans (hb7.mono (by omega)))
          clear hz7 hb7
          go_wp2_with fail
          exact bodyPost_ret (v := .tuple #[v7, .int .i64 10, .int .i64 c, .iface tn pn]) (by simp [results, Tryd.results127, go_sem]) rfl ⟨_, _, _, _, p, rfl, .inr rfl, HZ7.out, HAT7.out, hp, HB7.out⟩
        · exact bodyPost_ret (v := .tuple #[u0, .int .i64 10, .int .i64 c, .iface tn pn]) (by simp [results, Tryd.results127, go_sem]) rfl ⟨_, _, _, _, p, rfl, .inr rfl, HZ5.out, H5.out, hp, HB5.out⟩
        · have hi20 : i < 20 := by omega
          refine (HPW.out i hi20 w5).mono ?_
          rintro e w6 ⟨r, rfl, hr1, hr2, hb6⟩
          have HR1 := Aside0.mk hr1
          have HR2 := Aside0.mk hr2
          have HZ6 := Aside0.mk (HZ5.out.below hb6)
          have HAT6 := Aside0.mk (H5.out.below hb6)
          have HB6 := Aside0.mk (HB5.out.trans (hb6.mono (by have := H5.out.lt; omega)))
          clear hr1 hr2 hb6
          go_wp2_with fail
          refine (HMA.out _ n _ _ _ HAT6.out.lt HZ6.out (by omega) HR1.out HR2.out HD.out).mono ?_
          rintro e w7 ⟨v7, n7, rfl, hz7, hn7, hb7⟩
          have HZ7 := Aside0.mk hz7
          have HAT7 := Aside0.mk (HAT6.out.keep hb7 (by omega))
          have HB7 := Aside0.mk (HB6.out.trans (hb7.mono (by omega)))
          clear hz7 hb7
          go_wp2_with fail
          exact bodyPost_ret (v := .tuple #[v7, .int .i64 10, .int .i64 c, .nilIface]) (by simp [results, Tryd.results127, go_sem]) rfl ⟨_, _, _, _, p, rfl, .inl rfl, HZ7.out, HAT7.out, hp, HB7.out⟩
        · exact bodyPost_ret (v := .tuple #[u0, .int .i64 10, .int .i64 c, .nilIface]) (by simp [results, Tryd.results127, go_sem]) rfl ⟨_, _, _, _, p, rfl, .inl rfl, HZ5.out, H5.out, hp, HB5.out⟩
      · have t0 : decide ((48 : Int) ≤ (y : Int)) = true := decide_eq_true (by omega)
        have t1 : decide ((y : Int) ≤ 57) = false := decide_eq_false (by omega)
        have t2 : decide ((97 : Int) ≤ (y : Int)) = true := decide_eq_true (by omega)
        have t3 : decide ((y : Int) ≤ 122) = false := decide_eq_false (by omega)
        have t4 : decide ((65 : Int) ≤ (y : Int)) = true := decide_eq_true (by omega)
        have t5 : decide ((y : Int) ≤ 90) = false := decide_eq_false (by omega)
        have t6 : ((y : Int) == 46) = false := beq_false_of_ne (by omega)
        have t7 : ((y : Int) == 95) = false := beq_false_of_ne (by omega)
        have HZS := Aside0.mk HAT.out.lt
        clear hd
        go_wp2_with fail
        refine (HU.out p (by omega) _ HAT.out).mono ?_
        rintro e w5 ⟨rfl, h5, hb5, ho5⟩
        have H5 := Aside0.mk h5
        have HB5 := Aside0.mk (HB.out.trans hb5)
        have HZ5 := Aside0.mk (HZ.out.only ho5 (by omega))
        obtain ⟨c4, c8⟩ := HER.out.below HB5.out hb8
        have hpv : (pv == 95) = false := beq_false_of_ne HPV.out
        clear h5 hb5 ho5
        go_wp2_with fail
        · have hi20 : i < 20 := by omega
          refine (HPW.out i hi20 w5).mono ?_
          rintro e w6 ⟨r, rfl, hr1, hr2, hb6⟩
          have HR1 := Aside0.mk hr1
          have HR2 := Aside0.mk hr2
          have HZ6 := Aside0.mk (HZ5.out.below hb6)
          have HAT6 := Aside0.mk (H5.out.below hb6)
          have HB6 := Aside0.mk (HB5.out.trans (hb6.mono (by have := H5.out.lt; omega)))
          clear hr1 hr2 hb6
          go_wp2_with fail
          refine (HMA.out _ n _ _ _ HAT6.out.lt HZ6.out (by omega) HR1.out HR2.out HD.out).mono ?_
          rintro e w7 ⟨v7, n7, rfl, hz7, hn7, hb7⟩
          have HZ7 := Aside0.mk hz7
          have HAT7 := Aside0.mk (HAT6.out.keep hb7 (by omega))
          have HB7 := Aside0.mk (HB6.out.trans (hb7.mono (by omega)))
          clear hz7 hb7
          go_wp2_with fail
          exact bodyPost_ret (v := .tuple #[v7, .int .i64 10, .int .i64 c, .iface tn pn]) (by simp [results, Tryd.results127, go_sem]) rfl ⟨_, _, _, _, p, rfl, .inr rfl, HZ7.out, HAT7.out, hp, HB7.out⟩
        · exact bodyPost_ret (v := .tuple #[u0, .int .i64 10, .int .i64 c, .iface tn pn]) (by simp [results, Tryd.results127, go_sem]) rfl ⟨_, _, _, _, p, rfl, .inr rfl, HZ5.out, H5.out, hp, HB5.out⟩
        · have hi20 : i < 20 := by omega
          refine (HPW.out i hi20 w5).mono ?_
          rintro e w6 ⟨r, rfl, hr1, hr2, hb6⟩
          have HR1 := Aside0.mk hr1
          have HR2 := Aside0.mk hr2
          have HZ6 := Aside0.mk (HZ5.out.below hb6)
          have HAT6 := Aside0.mk (H5.out.below hb6)
          have HB6 := Aside0.mk (HB5.out.trans (hb6.mono (by have := H5.out.lt; omega)))
          clear hr1 hr2 hb6
          go_wp2_with fail
          refine (HMA.out _ n _ _ _ HAT6.out.lt HZ6.out (by omega) HR1.out HR2.out HD.out).mono ?_
          rintro e w7 ⟨v7, n7, rfl, hz7, hn7, hb7⟩
          have HZ7 := Aside0.mk hz7
          have HAT7 := Aside0.mk (HAT6.out.keep hb7 (by omega))
          have HB7 := Aside0.mk (HB6.out.trans (hb7.mono (by omega)))
          clear hz7 hb7
          go_wp2_with fail
          exact bodyPost_ret (v := .tuple #[v7, .int .i64 10, .int .i64 c, .nilIface]) (by simp [results, Tryd.results127, go_sem]) rfl ⟨_, _, _, _, p, rfl, .inl rfl, HZ7.out, HAT7.out, hp, HB7.out⟩
        · exact bodyPost_ret (v := .tuple #[u0, .int .i64 10, .int .i64 c, .nilIface]) (by simp [results, Tryd.results127, go_sem]) rfl ⟨_, _, _, _, p, rfl, .inl rfl, HZ5.out, H5.out, hp, HB5.out⟩
      · subst hr
        have HZS := Aside0.mk HAT.out.lt
        clear hd
        go_wp2_with fail
        refine (HU.out p (by omega) _ HAT.out).mono ?_
        rintro e w5 ⟨rfl, h5, hb5, ho5⟩
        have H5 := Aside0.mk h5
        have HB5 := Aside0.mk (HB.out.trans hb5)
        have HZ5 := Aside0.mk (HZ.out.only ho5 (by omega))
        obtain ⟨c4, c8⟩ := HER.out.below HB5.out hb8
        have hpv : (pv == 95) = false := beq_false_of_ne HPV.out
        clear h5 hb5 ho5
        go_wp2_with fail
        · have hi20 : i < 20 := by omega
          refine (HPW.out i hi20 w5).mono ?_
          rintro e w6 ⟨r, rfl, hr1, hr2, hb6⟩
          have HR1 := Aside0.mk hr1
          have HR2 := Aside0.mk hr2
          have HZ6 := Aside0.mk (HZ5.out.below hb6)
          have HAT6 := Aside0.mk (H5.out.below hb6)
          have HB6 := Aside0.mk (HB5.out.trans (hb6.mono (by have := H5.out.lt; omega)))
          clear hr1 hr2 hb6
          go_wp2_with fail
          refine (HMA.out _ n _ _ _ HAT6.out.lt HZ6.out (by omega) HR1.out HR2.out HD.out).mono ?_
          rintro e w7 ⟨v7, n7, rfl, hz7, hn7, hb7⟩
          have HZ7 := Aside0.mk hz7
          have HAT7 := Aside0.mk (HAT6.out.keep hb7 (by omega))
          have HB7 := Aside0.mk (HB6.out.trans (hb7.mono (by omega)))
          clear hz7 hb7
          go_wp2_with fail
          exact bodyPost_ret (v := .tuple #[v7, .int .i64 10, .int .i64 c, .iface tn pn]) (by simp [results, Tryd.results127, go_sem]) rfl ⟨_, _, _, _, p, rfl, .inr rfl, HZ7.out, HAT7.out, hp, HB7.out⟩
        · exact bodyPost_ret (v := .tuple #[u0, .int .i64 10, .int .i64 c, .iface tn pn]) (by simp [results, Tryd.results127, go_sem]) rfl ⟨_, _, _, _, p, rfl, .inr rfl, HZ5.out, H5.out, hp, HB5.out⟩
        · have hi20 : i < 20 := by omega
          refine (HPW.out i hi20 w5).mono ?_
          rintro e w6 ⟨r, rfl, hr1, hr2, hb6⟩
          have HR1 := Aside0.mk hr1
          have HR2 := Aside0.mk hr2
          have HZ6 := Aside0.mk (HZ5.out.below hb6)
          have HAT6 := Aside0.mk (H5.out.below hb6)
          have HB6 := Aside0.mk (HB5.out.trans (hb6.mono (by have := H5.out.lt; omega)))
          clear hr1 hr2 hb6
          go_wp2_with fail
          refine (HMA.out _ n _ _ _ HAT6.out.lt HZ6.out (by omega) HR1.out HR2.out HD.out).mono ?_
          rintro e w7 ⟨v7, n7, rfl, hz7, hn7, hb7⟩
          have HZ7 := Aside0.mk hz7
          have HAT7 := Aside0.mk (HAT6.out.keep hb7 (by omega))
          have HB7 := Aside0.mk (HB6.out.trans (hb7.mono (by omega)))
          clear hz7 hb7
          go_wp2_with fail
          exact bodyPost_ret (v := .tuple #[v7, .int .i64 10, .int .i64 c, .nilIface]) (by simp [results, Tryd.results127, go_sem]) rfl ⟨_, _, _, _, p, rfl, .inl rfl, HZ7.out, HAT7.out, hp, HB7.out⟩
        · exact bodyPost_ret (v := .tuple #[u0, .int .i64 10, .int .i64 c, .nilIface]) (by simp [results, Tryd.results127, go_sem]) rfl ⟨_, _, _, _, p, rfl, .inl rfl, HZ5.out, H5.out, hp, HB5.out⟩
      · subst hr
        have HZS := Aside0.mk HAT.out.lt
        clear hd
        go_wp2_with fail
        refine (HU.out p (by omega) _ HAT.out).mono ?_
        rintro e w5 ⟨rfl, h5, hb5, ho5⟩
        have H5 := Aside0.mk h5
        have HB5 := Aside0.mk (HB.out.trans hb5)
        have HZ5 := Aside0.mk (HZ.out.only ho5 (by omega))
        obtain ⟨c4, c8⟩ := HER.out.below HB5.out hb8
        have hpv : (pv == 95) = false := beq_false_of_ne HPV.out
        clear h5 hb5 ho5
        go_wp2_with fail
        · have hi20 : i < 20 := by omega
          refine (HPW.out i hi20 w5).mono ?_
          rintro e w6 ⟨r, rfl, hr1, hr2, hb6⟩
          have HR1 := Aside0.mk hr1
          have HR2 := Aside0.mk hr2
          have HZ6 := Aside0.mk (HZ5.out.below hb6)
          have HAT6 := Aside0.mk (H5.out.below hb6)
          have HB6 := Aside0.mk (HB5.out.trans (hb6.mono (by have := H5.out.lt; omega)))
          clear hr1 hr2 hb6
          go_wp2_with fail
          refine (HMA.out _ n _ _ _ HAT6.out.lt HZ6.out (by omega) HR1.out HR2.out HD.out).mono ?_
          rintro e w7 ⟨v7, n7, rfl, hz7, hn7, hb7⟩
          have HZ7 := Aside0.mk hz7
          have HAT7 := Aside0.mk (HAT6.out.keep hb7 (by omega))
          have HB7 := Aside0.mk (HB6.out.trans (hb7.mono (by omega)))
          clear hz7 hb7
          go_wp2_with fail
          exact bodyPost_ret (v := .tuple #[v7, .int .i64 10, .int .i64 c, .iface tn pn]) (by simp [results, Tryd.results127, go_sem]) rfl ⟨_, _, _, _, p, rfl, .inr rfl, HZ7.out, HAT7.out, hp, HB7.out⟩
        · exact bodyPost_ret (v := .tuple #[u0, .int .i64 10, .int .i64 c, .iface tn pn]) (by simp [results, Tryd.results127, go_sem]) rfl ⟨_, _, _, _, p, rfl, .inr rfl, HZ5.out, H5.out, hp, HB5.out⟩
        · have hi20 : i < 20 := by omega
          refine (HPW.out i hi20 w5).mono ?_
          rintro e w6 ⟨r, rfl, hr1, hr2, hb6⟩
          have HR1 := Aside0.mk hr1
          have HR2 := Aside0.mk hr2
          have HZ6 := Aside0.mk (HZ5.out.below hb6)
          have HAT6 := Aside0.mk (H5.out.below hb6)
          have HB6 := Aside0.mk (HB5.out.trans (hb6.mono (by have := H5.out.lt; omega)))
          clear hr1 hr2 hb6
          go_wp2_with fail
          refine (HMA.out _ n _ _ _ HAT6.out.lt HZ6.out (by omega) HR1.out HR2.out HD.out).mono ?_
          rintro e w7 ⟨v7, n7, rfl, hz7, hn7, hb7⟩
          have HZ7 := Aside0.mk hz7
          have HAT7 := Aside0.mk (HAT6.out.keep hb7 (by omega))
          have HB7 := Aside0.mk (HB6.out.trans (hb7.mono (by omega)))
          clear hz7 hb7
          go_wp2_with fail
          exact bodyPost_ret (v := .tuple #[v7, .int .i64 10, .int .i64 c, .nilIface]) (by simp [results, Tryd.results127, go_sem]) rfl ⟨_, _, _, _, p, rfl, .inl rfl, HZ7.out, HAT7.out, hp, HB7.out⟩
        · exact bodyPost_ret (v := .tuple #[u0, .int .i64 10, .int .i64 c, .nilIface]) (by simp [results, Tryd.results127, go_sem]) rfl ⟨_, _, _, _, p, rfl, .inl rfl, HZ5.out, H5.out, hp, HB5.out⟩
end Go.Proofs.YthkmgjkajllemaaDoor.Mw
