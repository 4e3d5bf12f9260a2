/- NewFromString of a text that is no number: an error. -/
import Derived.Test.YthkmgjkajllemaaDoorSd
import Derived.Test.YthkmgjkajllemaaDoorMn
import Derived.Test.YthkmgjkajllemaaDoorPi
import Derived.Lib.OthersKept
import Derived.Laws.Strings2
import Derived.Laws.Strings3
namespace Go.Proofs.YthkmgjkajllemaaDoor.Nf
open Go.RowKit Go.Proofs.YthkmgjkajllemaaDoorW.PrintWords Go.Proofs.YthkmgjkajllemaaDoorW.PrintLast Go.Proofs.YthkmgjkajllemaaDoorW.PrintMore Go.Proofs.YthkmgjkajllemaaDoor.Tx Go.Proofs.YthkmgjkajllemaaDoor.Rd Go.Proofs.YthkmgjkajllemaaDoor.Mw Go.Proofs.YthkmgjkajllemaaDoor.Pi
set_option linter.unusedVariables false
set_option linter.unusedSimpArgs false

/-- A text that is refused. -/
structure Ref (s : ByteArray) : Prop where
  size : s.size ≤ 300
  ascii : ∀ k : Nat, k < s.size → bt s (k : Int) < 128
  why : s.size = 0 ∨ (∃ k : Nat, k < s.size ∧ OddB (bt s (k : Int))) ∨ ∃ j k : Nat, j < k ∧ k < s.size ∧ bt s (j : Int) = 46 ∧ bt s (k : Int) = 46
/-- Where an e was seen. -/
def EAt (s : ByteArray) (pos : Nat) (e : Int) : Prop := e = -1 ∨ ∃ j : Nat, e = j ∧ j < pos ∧ (bt s (j : Int) = 101 ∨ bt s (j : Int) = 69)
/-- Where a point was seen. -/
def PAt (s : ByteArray) (pos : Nat) (p : Int) : Prop :=
  (p = -1 ∧ ∀ k : Nat, k < pos → bt s (k : Int) ≠ 46) ∨ ∃ j : Nat, p = j ∧ j < pos ∧ bt s (j : Int) = 46 ∧ ∀ k : Nat, k < pos → k ≠ j → bt s (k : Int) ≠ 46

/-- The block of the first result. -/
structure Res (w w' : World) : Prop where
  c0 : w'.cell? ⟨w.heap.size, 0, none⟩ = some (.pointer none)
  c1 : w'.cell? ⟨w.heap.size, 1, none⟩ = some (.int .i32 0)
  f0 : w'.frozen? ⟨w.heap.size, 0, none⟩ = false
  f1 : w'.frozen? ⟨w.heap.size, 1, none⟩ = false
  lt : w.heap.size < w'.heap.size
  below : Below w.heap.size w w'
theorem Res.keep {w w1 w2 : World} {B : Nat} (h : Res w w1) (hb : Below B w1 w2) (hB : w.heap.size < B) : Res w w2 := by
  obtain ⟨c0, c1, f0, f1, lt, hw⟩ := h
  exact ⟨(hb.cell (p := ⟨w.heap.size, 0, none⟩) hB).trans c0, (hb.cell (p := ⟨w.heap.size, 1, none⟩) hB).trans c1, (hb.frozen (p := ⟨w.heap.size, 0, none⟩) hB).trans f0, (hb.frozen (p := ⟨w.heap.size, 1, none⟩) hB).trans f1, Nat.lt_of_lt_of_le lt hb.size, hw.trans (hb.mono (by omega))⟩
theorem Res.new (w : World) : Res w (w.alloc (.cells #[.pointer none, .int .i32 0] 102)) :=
  ⟨by simp, by simp, by simp, by simp, by simp, (Below.refl _ _).alloc (Nat.le_refl _) _⟩

theorem man_all (s : ByteArray) (p : Int) (h : Ref s) (hp : PAt s s.size p) : Man s p := by
  refine ⟨h.size, ?_, ?_⟩
  · rcases h.why with h1 | h1 | ⟨j, k, hjk, hk, hj46, hk46⟩
    · exact .inl h1
    · exact .inr h1
    · exfalso
      rcases hp with ⟨-, h2⟩ | ⟨i, -, -, -, h4⟩
      · exact h2 k hk hk46
      · by_cases hki : k = i
        · exact h4 j (by omega) (by omega) hj46
        · exact h4 k hk hki hk46
  · rcases hp with ⟨h1, -⟩ | ⟨j, h1, h2, h3, -⟩
    · exact .inl h1
    · exact .inr ⟨j, h1, h2, h3⟩
theorem man_cut (s : ByteArray) (p : Int) (j : Nat) (h : Ref s) (hp : PAt s s.size p) (hj : j < s.size) (he : bt s (j : Int) = 101 ∨ bt s (j : Int) = 69)
    (hok : ∀ c ∈ (s.extract (j + 1) s.size).data.toList, (48 ≤ c.toNat ∧ c.toNat ≤ 57) ∨ c.toNat = 43 ∨ c.toNat = 45) : Man (s.extract 0 j) p := by
  have hm := man_all s p h hp
  have hs : (s.extract 0 j).size = j := by rw [ByteArray.size_extract]; omega
  have hb : ∀ k : Nat, k < j → bt (s.extract 0 j) (k : Int) = bt s (k : Int) := fun k hk => by
    rw [bt_extract s 0 j k (by omega) (by omega), Nat.zero_add]
  have hr : ∀ k : Nat, j < k → k < s.size → (48 ≤ bt s (k : Int) ∧ bt s (k : Int) ≤ 57) ∨ bt s (k : Int) = 43 ∨ bt s (k : Int) = 45 := fun k hk hks => by
    obtain ⟨c, hc, e⟩ := bt_mem s (j + 1) k (by omega) hks
    have := hok c hc
    rw [← e]
    omega
  refine ⟨by rw [hs]; have := h.size; omega, ?_, ?_⟩
  · rcases hm.why with h0 | ⟨k, hk, hodd⟩
    · omega
    · refine .inr ⟨k, ?_, ?_⟩
      · rw [hs]
        rcases (by omega : k < j ∨ k = j ∨ j < k) with h1 | h1 | h1
        · exact h1
        · subst h1
          obtain ⟨-, -, -, -, h2, h3⟩ := hodd
          rcases he with he | he
          · exact absurd he h2
          · exact absurd he h3
        · obtain ⟨h0, h2, h3, -⟩ := hodd
          rcases hr k h1 hk with h4 | h4 | h4
          · exact absurd h4 h0
          · exact absurd h4 h2
          · exact absurd h4 h3
      · have hkj : k < j := by
          rcases (by omega : k < j ∨ k = j ∨ j < k) with h1 | h1 | h1
          · exact h1
          · subst h1
            obtain ⟨-, -, -, -, h2, h3⟩ := hodd
            rcases he with he | he
            · exact absurd he h2
            · exact absurd he h3
          · obtain ⟨h0, h2, h3, -⟩ := hodd
            rcases hr k h1 hk with h4 | h4 | h4
            · exact absurd h4 h0
            · exact absurd h4 h2
            · exact absurd h4 h3
        rw [hb k hkj]
        exact hodd
  · rcases hm.pt with h1 | ⟨i, h1, h2, h3⟩
    · exact .inl h1
    · have hij : i < j := by
        rcases (by omega : i < j ∨ i = j ∨ j < i) with h4 | h4 | h4
        · exact h4
        · subst h4
          omega
        · rcases hr i h4 h2 with h5 | h5 | h5 <;> omega
      exact .inr ⟨i, h1, by rw [hs]; exact hij, by rw [hb i hij]; exact h3⟩

theorem Fresh.new (w : World) : Fresh (w.alloc (.cells #[.bool false, .slice none 0 0] 132)) w.heap.size := ⟨by simp, by simp, by simp, by simp, by simp⟩

theorem _root_.Go.Proofs.YthkmgjkajllemaaDoor.Pi.Errs5.below {w w1 : World} {b : Nat} (h : Errs5 w) (hb : Below b w w1) (hb8 : 8 < b) : Errs5 w1 := by
  obtain ⟨⟨t, p, h1⟩, ⟨t', p', h2⟩⟩ := h
  exact ⟨⟨t, p, (hb.cell (p := ⟨5, 0, none⟩) (by show 5 < b; omega)).trans h1⟩, ⟨t', p', (hb.cell (p := ⟨6, 0, none⟩) (by show 6 < b; omega)).trans h2⟩⟩

theorem EAt.step {s : ByteArray} {pos : Nat} {e : Int} (h : EAt s pos e) : EAt s (pos + 1) e := h.imp id (fun ⟨j, h1, h2, h3⟩ => ⟨j, h1, by omega, h3⟩)
theorem PAt.step {s : ByteArray} {pos : Nat} {p : Int} (h : PAt s pos p) (hb : bt s (pos : Int) ≠ 46) : PAt s (pos + 1) p := by
  rcases h with ⟨h1, h2⟩ | ⟨j, h1, h2, h3, h4⟩
  · refine .inl ⟨h1, fun k hk => ?_⟩
    rcases (by omega : k < pos ∨ k = pos) with h | h
    · exact h2 k h
    · subst h; exact hb
  · refine .inr ⟨j, h1, by omega, h3, fun k hk hkj => ?_⟩
    rcases (by omega : k < pos ∨ k = pos) with h | h
    · exact h4 k h hkj
    · subst h; exact hb
theorem PAt.hit {s : ByteArray} {pos : Nat} (h : PAt s pos (-1)) (hb : bt s (pos : Int) = 46) : PAt s (pos + 1) (pos : Int) := by
  rcases h with ⟨-, h2⟩ | ⟨j, h1, -⟩
  · refine .inr ⟨pos, rfl, by omega, hb, fun k hk hkj => h2 k (by omega)⟩
  · omega

set_option maxHeartbeats 4000000 in
set_option maxRecDepth 100000 in
theorem newFrom_ref (s : ByteArray) (te tn : TypeId) (pe pn : Value) (w : World) (h : Ref s) (hE : Errs w te pe tn pn) (h5 : Errs5 w) (hb8 : 8 < w.heap.size) :
    Calls Tryd.prog 75 #[.string s] w fun e w' => ∃ a, e = .returned (.tuple #[.agg #[.pointer none, .int .i32 0], .iface 140 (.pointer (some a))]) ∧ Below w.heap.size w w' := by
  have X96 := Lib.hid (fun W => replace_ascii s h.ascii (by have := h.size; omega) W)
  have X97 := Lib.hid (fun t W => errNew_any t W)
  have HR := Aside0.mk h
  have HE := Aside0.mk hE
  have H5 := Aside0.mk h5
  have hs := h.size
  clear h hE h5
  go_enter Tryd.func75, Tryd.ntmps75
  go_wp2_with fail
  refine (X96.out _).mono ?_
  rintro e w2 ⟨rfl, hb⟩
  have HRS := Aside0.mk ((Res.new w).keep hb (by simp))
  clear hb
  have hk0 : (w2.iter s 0).heap[w2.heap.size]? = some (.stringIter s 0) := World.iter_heap w2 s 0
  have hbi : Below w2.heap.size w2 (w2.iter s 0) := (Below.refl _ _).alloc (Nat.le_refl _) _
  have HK0 := Aside0.mk hk0
  have HRI := Aside0.mk (HRS.out.keep hbi HRS.out.lt)
  clear hk0 hbi
  go_wp2_with fail
  go_loopw [3, 5, 6] (fun v3 v5 v6 w' => ∃ (pos : Nat) (eI pI : Int), v3 = .nilIface ∧ v5 = .int .i64 eI ∧ v6 = .int .i64 pI ∧ pos ≤ s.size ∧ Aside0 (EAt s pos eI) ∧ Aside0 (PAt s pos pI) ∧ Aside0 (w'.heap[w2.heap.size]? = some (.stringIter s pos)) ∧ Aside0 (Res w w')) (fun _ _ _ w' => s.size - w'.iterPos w2.heap.size)
  case atStart => exact ⟨0, -1, -1, rfl, rfl, rfl, by omega, ⟨.inl rfl⟩, ⟨.inl ⟨rfl, fun k hk => by omega⟩⟩, HK0, HRI⟩
  case round =>
    clear HK0 HRI
    obtain ⟨pos, eI, pI, rfl, rfl, rfl, hp, HEI, HPI, HK, HRW⟩ := hrel
    have hmu : wr.iterPos w2.heap.size = pos := by simp [World.iterPos, HK.out]
    have HMU := Aside0.mk hmu
    clear hmu
    by_cases hlt0 : pos < s.size
    · obtain ⟨y, hy, hy2, hy3⟩ := bt_nat s pos hlt0
      have HY := Aside0.mk hy2
      have hnext : ∀ ty, (Instr.next (.pointer (some ⟨w2.heap.size, 0, none⟩)) true ty).run Tryd.prog wr = .ok (.tuple #[.bool true, .int .i64 pos, .int .i32 y]) (wr.iterAt w2.heap.size s (pos + 1)) := fun ty => by
        have h128 := HR.out.ascii pos hlt0
        rw [hy2] at h128
        have := Lib.run_next_ascii_at (P := Tryd.prog) wr w2.heap.size s pos ty HK.out hlt0 (by omega)
        rw [hy3] at this
        exact this
      have hk1 := Lib.iterAt_heap wr w2.heap.size s pos (pos + 1) HK.out
      have hb1 : Below w2.heap.size wr (wr.iterAt w2.heap.size s (pos + 1)) := Lib.below_iterAt (Below.refl _ _) (Nat.le_refl _) s (pos + 1)
      have HK1 := Aside0.mk hk1
      have HR1 := Aside0.mk (HRW.out.keep hb1 HRS.out.lt)
      clear hk1 hb1 hy2 hy3
      generalize wr.iterAt w2.heap.size s (pos + 1) = W1 at hnext HK1 HR1
      have hmu2 : W1.iterPos w2.heap.size = pos + 1 := by simp [World.iterPos, HK1.out]
      have HMU2 := Aside0.mk hmu2
      clear hmu2
      have i21 : IntKind.i32.wrap (y : Int) = y := IntWalk.i32_in _ (by omega)
      by_cases hye : y = 69
      · subst hye
        rcases HEI.out with hm | ⟨j, hm, hj⟩
        · subst hm
          go_wp2_with fail
          go_roundw
          case rel => exact ⟨pos + 1, (pos : Int), pI, rfl, rfl, rfl, by omega, ⟨.inr ⟨pos, rfl, by omega, .inr HY.out⟩⟩, ⟨HPI.out.step (by rw [HY.out]; decide)⟩, HK1, HR1⟩
          case measure =>
            have h1 := HMU.out
            have h2 := HMU2.out
            show s.size - W1.iterPos w2.heap.size < s.size - wr.iterPos w2.heap.size
            omega
        · subst hm
          have g1 : decide ((-1 : Int) < (j : Int)) = true := decide_eq_true (by omega)
          clear hj
          go_wp2_with fail
          refine (X97.out _ _).mono ?_
          rintro e w9 ⟨a9, rfl, hb9⟩
          have HR9 := Aside0.mk (HR1.out.keep hb9 HR1.out.lt)
          obtain ⟨d0, d1, f0, f1, hlt, -⟩ := HR9.out
          have HF := Aside0.mk ((HR9.out.below.setCell (p := ⟨w.heap.size, 0, none⟩) (Nat.le_refl _) (.pointer none)).setCell (p := ⟨w.heap.size, 1, none⟩) (Nat.le_refl _) (.int .i32 0))
          clear hb9
          go_wp2_with fail
          exact bodyPost_ret (v := .tuple #[.agg #[.pointer none, .int .i32 0], .iface 140 (.pointer (some a9))]) (by simp [results, Tryd.results75, go_sem, d0, d1, f0, f1, hlt]) rfl ⟨a9, rfl, HF.out⟩
      · have e69 : ((y : Int) == 69) = false := beq_false_of_ne (by omega)
        by_cases hye : y = 101
        · subst hye
          rcases HEI.out with hm | ⟨j, hm, hj⟩
          · subst hm
            go_wp2_with fail
            go_roundw
            case rel => exact ⟨pos + 1, (pos : Int), pI, rfl, rfl, rfl, by omega, ⟨.inr ⟨pos, rfl, by omega, .inl HY.out⟩⟩, ⟨HPI.out.step (by rw [HY.out]; decide)⟩, HK1, HR1⟩
            case measure =>
              have h1 := HMU.out
              have h2 := HMU2.out
              show s.size - W1.iterPos w2.heap.size < s.size - wr.iterPos w2.heap.size
              omega
          · subst hm
            have g1 : decide ((-1 : Int) < (j : Int)) = true := decide_eq_true (by omega)
            clear hj
            go_wp2_with fail
            refine (X97.out _ _).mono ?_
            rintro e w9 ⟨a9, rfl, hb9⟩
            have HR9 := Aside0.mk (HR1.out.keep hb9 HR1.out.lt)
            obtain ⟨d0, d1, f0, f1, hlt, -⟩ := HR9.out
            have HF := Aside0.mk ((HR9.out.below.setCell (p := ⟨w.heap.size, 0, none⟩) (Nat.le_refl _) (.pointer none)).setCell (p := ⟨w.heap.size, 1, none⟩) (Nat.le_refl _) (.int .i32 0))
            clear hb9
            go_wp2_with fail
            exact bodyPost_ret (v := .tuple #[.agg #[.pointer none, .int .i32 0], .iface 140 (.pointer (some a9))]) (by simp [results, Tryd.results75, go_sem, d0, d1, f0, f1, hlt]) rfl ⟨a9, rfl, HF.out⟩
        · have e101 : ((y : Int) == 101) = false := beq_false_of_ne (by omega)
          by_cases hyp : y = 46
          · subst hyp
            rcases HPI.out with ⟨hm, hq⟩ | ⟨j, hm, hj, -⟩
            · subst hm
              clear hq
              go_wp2_with fail
              go_roundw
              case rel => exact ⟨pos + 1, eI, (pos : Int), rfl, rfl, rfl, by omega, ⟨HEI.out.step⟩, ⟨HPI.out.hit HY.out⟩, HK1, HR1⟩
              case measure =>
                have h1 := HMU.out
                have h2 := HMU2.out
                show s.size - W1.iterPos w2.heap.size < s.size - wr.iterPos w2.heap.size
                omega
            · subst hm
              have g1 : decide ((-1 : Int) < (j : Int)) = true := decide_eq_true (by omega)
              clear hj
              go_wp2_with fail
              refine (X97.out _ _).mono ?_
              rintro e w9 ⟨a9, rfl, hb9⟩
              have HR9 := Aside0.mk (HR1.out.keep hb9 HR1.out.lt)
              obtain ⟨d0, d1, f0, f1, hlt, -⟩ := HR9.out
              have HF := Aside0.mk ((HR9.out.below.setCell (p := ⟨w.heap.size, 0, none⟩) (Nat.le_refl _) (.pointer none)).setCell (p := ⟨w.heap.size, 1, none⟩) (Nat.le_refl _) (.int .i32 0))
              clear hb9
              go_wp2_with fail
              exact bodyPost_ret (v := .tuple #[.agg #[.pointer none, .int .i32 0], .iface 140 (.pointer (some a9))]) (by simp [results, Tryd.results75, go_sem, d0, d1, f0, f1, hlt]) rfl ⟨a9, rfl, HF.out⟩
          · have e46 : ((y : Int) == 46) = false := beq_false_of_ne (by omega)
            go_wp2_with fail
            go_roundw
            case rel => exact ⟨pos + 1, eI, pI, rfl, rfl, rfl, by omega, ⟨HEI.out.step⟩, ⟨HPI.out.step (by rw [HY.out]; omega)⟩, HK1, HR1⟩
            case measure =>
              have h1 := HMU.out
              have h2 := HMU2.out
              show s.size - W1.iterPos w2.heap.size < s.size - wr.iterPos w2.heap.size
              omega
    · obtain rfl : pos = s.size := by omega
      have hnext : ∀ ty, (Instr.next (.pointer (some ⟨w2.heap.size, 0, none⟩)) true ty).run Tryd.prog wr = .ok (.tuple #[.bool false]) wr := fun ty => Lib.run_next_end_at wr w2.heap.size s s.size ty HK.out (by omega)
      rcases HEI.out with hei | ⟨j, hei, hj, hje⟩
      · subst hei
        have HM := Aside0.mk (man_all s pI HR.out HPI.out)
        rcases HM.out.pt with hpi | ⟨p, hpi, hpv, hpb⟩
        · subst hpi
          have X99 := Lib.hid (fun W => skip_man s (-1) HM.out W)
          have hvs := HM.out.size
          by_cases hbig : s.size ≤ 18
          · have q1 : decide ((s.size : Int) ≤ 18) = true := decide_eq_true (by omega)
            go_wp2_with fail
            refine (X99.out _).mono ?_
            rintro e w7 ⟨nn, rfl, hb7⟩
            have HR7 := Aside0.mk (HRW.out.keep hb7 HRW.out.lt)
            clear hb7
            go_wp2_with fail
            refine (X97.out _ _).mono ?_
            rintro e w9 ⟨a9, rfl, hb9⟩
            have HR9 := Aside0.mk (HR7.out.keep hb9 HR7.out.lt)
            obtain ⟨d0, d1, f0, f1, hlt, -⟩ := HR9.out
            have HF := Aside0.mk ((HR9.out.below.setCell (p := ⟨w.heap.size, 0, none⟩) (Nat.le_refl _) (.pointer none)).setCell (p := ⟨w.heap.size, 1, none⟩) (Nat.le_refl _) (.int .i32 0))
            clear hb9
            go_wp2_with fail
            exact bodyPost_ret (v := .tuple #[.agg #[.pointer none, .int .i32 0], .iface 140 (.pointer (some a9))]) (by simp [results, Tryd.results75, go_sem, d0, d1, f0, f1, hlt]) rfl ⟨a9, rfl, HF.out⟩
          · have q1 : decide ((s.size : Int) ≤ 18) = false := decide_eq_false (by omega)
            obtain ⟨k, hk, hodd⟩ : ∃ k : Nat, k < s.size ∧ OddB (bt s (k : Int)) := HM.out.why.resolve_left (by omega)
            have HOD := Aside0.mk hodd
            clear hodd
            go_wp2_with fail
            have HX0 := Aside0.mk (HRW.out.keep (w2 := wr.alloc (.cells #[.bool false, .slice none 0 0] 132)) ((Below.refl wr.heap.size _).alloc (Nat.le_refl _) _) HRW.out.lt)
            refine (setString_odd wr.heap.size (w.heap.size + 1) k s te tn pe pn _ (Fresh.new wr) hk HOD.out (by omega) (HE.out.below HX0.out.below hb8) (by omega) (by have := HRW.out.lt; omega)).mono ?_
            rintro e w7 ⟨r7, rfl, hb7⟩
            have HR7 := Aside0.mk (HX0.out.keep hb7 (Nat.lt_succ_self _))
            clear hb7
            go_wp2_with fail
            refine (X97.out _ _).mono ?_
            rintro e w9 ⟨a9, rfl, hb9⟩
            have HR9 := Aside0.mk (HR7.out.keep hb9 HR7.out.lt)
            obtain ⟨d0, d1, f0, f1, hlt, -⟩ := HR9.out
            have HF := Aside0.mk ((HR9.out.below.setCell (p := ⟨w.heap.size, 0, none⟩) (Nat.le_refl _) (.pointer none)).setCell (p := ⟨w.heap.size, 1, none⟩) (Nat.le_refl _) (.int .i32 0))
            clear hb9
            go_wp2_with fail
            exact bodyPost_ret (v := .tuple #[.agg #[.pointer none, .int .i32 0], .iface 140 (.pointer (some a9))]) (by simp [results, Tryd.results75, go_sem, d0, d1, f0, f1, hlt]) rfl ⟨a9, rfl, HF.out⟩
        · subst hpi
          have X99 := Lib.hid (fun W => skip_man s (p : Int) HM.out W)
          have hvs := HM.out.size
          have HPB := Aside0.mk hpb
          have n0 : ((p : Int) == -1) = false := beq_false_of_ne (by omega)
          have n1 : ((p : Int) != -1) = true := bne_iff_ne.2 (by omega)
          have n2 : ¬ (p : Int) = -1 := by omega
          have n3 : (0 : Int) ≤ (p : Int) + 1 := by omega
          have n4 : (p : Int) + 1 ≤ (s.size : Int) := by omega
          have n5 : (p : Int) ≤ (s.size : Int) := by omega
          clear hpb
          by_cases hl : p + 1 < s.size
          · have l1 : decide ((p : Int) + 1 < (s.size : Int)) = true := decide_eq_true (by omega)
            have l2 : (p : Int) + 1 < (s.size : Int) := by omega
            obtain ⟨y, hy, hy2, hy3⟩ := bt_nat s (p + 1) hl
            have HB3 := Aside0.mk hy3
            clear hy3 hy2
            by_cases hy45 : y = 45
            · subst hy45
              go_wp2_with (simp only [HB3.out])
              go_wp2_with fail
              refine (X97.out _ _).mono ?_
              rintro e w9 ⟨a9, rfl, hb9⟩
              have HR9 := Aside0.mk (HRW.out.keep hb9 HRW.out.lt)
              obtain ⟨d0, d1, f0, f1, hlt, -⟩ := HR9.out
              have HF := Aside0.mk ((HR9.out.below.setCell (p := ⟨w.heap.size, 0, none⟩) (Nat.le_refl _) (.pointer none)).setCell (p := ⟨w.heap.size, 1, none⟩) (Nat.le_refl _) (.int .i32 0))
              clear hb9
              go_wp2_with fail
              exact bodyPost_ret (v := .tuple #[.agg #[.pointer none, .int .i32 0], .iface 140 (.pointer (some a9))]) (by simp [results, Tryd.results75, go_sem, d0, d1, f0, f1, hlt]) rfl ⟨a9, rfl, HF.out⟩
            · by_cases hy43 : y = 43
              · subst hy43
                go_wp2_with (simp only [HB3.out])
                go_wp2_with fail
                refine (X97.out _ _).mono ?_
                rintro e w9 ⟨a9, rfl, hb9⟩
                have HR9 := Aside0.mk (HRW.out.keep hb9 HRW.out.lt)
                obtain ⟨d0, d1, f0, f1, hlt, -⟩ := HR9.out
                have HF := Aside0.mk ((HR9.out.below.setCell (p := ⟨w.heap.size, 0, none⟩) (Nat.le_refl _) (.pointer none)).setCell (p := ⟨w.heap.size, 1, none⟩) (Nat.le_refl _) (.int .i32 0))
                clear hb9
                go_wp2_with fail
                exact bodyPost_ret (v := .tuple #[.agg #[.pointer none, .int .i32 0], .iface 140 (.pointer (some a9))]) (by simp [results, Tryd.results75, go_sem, d0, d1, f0, f1, hlt]) rfl ⟨a9, rfl, HF.out⟩
              · have e1 : ((y : Int) == 45) = false := beq_false_of_ne (by omega)
                have e2 : ((y : Int) == 43) = false := beq_false_of_ne (by omega)
                by_cases hbig : s.size ≤ 19
                · have q1 : decide ((s.size : Int) - 1 ≤ 18) = true := decide_eq_true (by omega)
                  go_wp2_with (simp only [HB3.out])
                  refine (X99.out _).mono ?_
                  rintro e w7 ⟨nn, rfl, hb7⟩
                  have HR7 := Aside0.mk (HRW.out.keep hb7 HRW.out.lt)
                  clear hb7
                  go_wp2_with fail
                  refine (X97.out _ _).mono ?_
                  rintro e w9 ⟨a9, rfl, hb9⟩
                  have HR9 := Aside0.mk (HR7.out.keep hb9 HR7.out.lt)
                  obtain ⟨d0, d1, f0, f1, hlt, -⟩ := HR9.out
                  have HF := Aside0.mk ((HR9.out.below.setCell (p := ⟨w.heap.size, 0, none⟩) (Nat.le_refl _) (.pointer none)).setCell (p := ⟨w.heap.size, 1, none⟩) (Nat.le_refl _) (.int .i32 0))
                  clear hb9
                  go_wp2_with fail
                  exact bodyPost_ret (v := .tuple #[.agg #[.pointer none, .int .i32 0], .iface 140 (.pointer (some a9))]) (by simp [results, Tryd.results75, go_sem, d0, d1, f0, f1, hlt]) rfl ⟨a9, rfl, HF.out⟩
                · have q1 : decide ((s.size : Int) - 1 ≤ 18) = false := decide_eq_false (by omega)
                  obtain ⟨k, hk, hodd⟩ : ∃ k : Nat, k < s.size ∧ OddB (bt s (k : Int)) := HM.out.why.resolve_left (by omega)
                  obtain ⟨k2, hk2, hodd2⟩ := odd_joined s p k hpv HPB.out hk hodd
                  obtain ⟨xa, hxa⟩ : ∃ xa, s.extract 0 p = xa := ⟨_, rfl⟩
                  obtain ⟨xb, hxb⟩ : ∃ xb, s.extract (p + 1) s.size = xb := ⟨_, rfl⟩
                  have hsa : xa.size ≤ 300 := by rw [← hxa, ByteArray.size_extract]; omega
                  have hsb : xb.size ≤ s.size - 1 - p := by rw [← hxb, ByteArray.size_extract]; omega
                  have hsa2 : xa.size ≤ p := by rw [← hxa, ByteArray.size_extract]; omega
                  rw [hxa, hxb] at hk2 hodd2
                  have HOD := Aside0.mk hodd2
                  have j1 : ¬ 9223372036854775807 < xa.size + xb.size := by omega
                  clear hodd hodd2
                  go_wp2_with (simp only [HB3.out])
                  go_region
                  go_wp2_with fail
                  have HX0 := Aside0.mk ((HRW.out.keep (w2 := wr.drew) (below_drew (Below.refl wr.heap.size _)) HRW.out.lt).keep (w2 := wr.drew.alloc (.cells #[.bool false, .slice none 0 0] 132)) ((Below.refl wr.drew.heap.size _).alloc (Nat.le_refl _) _) HRW.out.lt)
                  refine (setString_odd wr.drew.heap.size (w.heap.size + 1) k2 (xa ++ xb) te tn pe pn _ (Fresh.new wr.drew) hk2 HOD.out (by rw [ByteArray.size_append]; omega) (HE.out.below HX0.out.below hb8) (by omega) (by have := HRW.out.lt; show w.heap.size + 1 ≤ wr.heap.size; omega)).mono ?_
                  rintro e w7 ⟨r7, rfl, hb7⟩
                  have HR7 := Aside0.mk (HX0.out.keep hb7 (Nat.lt_succ_self _))
                  clear hb7
                  go_wp2_with fail
                  refine (X97.out _ _).mono ?_
                  rintro e w9 ⟨a9, rfl, hb9⟩
                  have HR9 := Aside0.mk (HR7.out.keep hb9 HR7.out.lt)
                  obtain ⟨d0, d1, f0, f1, hlt, -⟩ := HR9.out
                  have HF := Aside0.mk ((HR9.out.below.setCell (p := ⟨w.heap.size, 0, none⟩) (Nat.le_refl _) (.pointer none)).setCell (p := ⟨w.heap.size, 1, none⟩) (Nat.le_refl _) (.int .i32 0))
                  clear hb9
                  go_wp2_with fail
                  exact bodyPost_ret (v := .tuple #[.agg #[.pointer none, .int .i32 0], .iface 140 (.pointer (some a9))]) (by simp [results, Tryd.results75, go_sem, d0, d1, f0, f1, hlt]) rfl ⟨a9, rfl, HF.out⟩
          · have l1 : decide ((p : Int) + 1 < (s.size : Int)) = false := decide_eq_false (by omega)
            by_cases hbig : s.size ≤ 19
            · have q1 : decide ((s.size : Int) - 1 ≤ 18) = true := decide_eq_true (by omega)
              go_wp2_with fail
              refine (X99.out _).mono ?_
              rintro e w7 ⟨nn, rfl, hb7⟩
              have HR7 := Aside0.mk (HRW.out.keep hb7 HRW.out.lt)
              clear hb7
              go_wp2_with fail
              refine (X97.out _ _).mono ?_
              rintro e w9 ⟨a9, rfl, hb9⟩
              have HR9 := Aside0.mk (HR7.out.keep hb9 HR7.out.lt)
              obtain ⟨d0, d1, f0, f1, hlt, -⟩ := HR9.out
              have HF := Aside0.mk ((HR9.out.below.setCell (p := ⟨w.heap.size, 0, none⟩) (Nat.le_refl _) (.pointer none)).setCell (p := ⟨w.heap.size, 1, none⟩) (Nat.le_refl _) (.int .i32 0))
              clear hb9
              go_wp2_with fail
              exact bodyPost_ret (v := .tuple #[.agg #[.pointer none, .int .i32 0], .iface 140 (.pointer (some a9))]) (by simp [results, Tryd.results75, go_sem, d0, d1, f0, f1, hlt]) rfl ⟨a9, rfl, HF.out⟩
            · have q1 : decide ((s.size : Int) - 1 ≤ 18) = false := decide_eq_false (by omega)
              obtain ⟨k, hk, hodd⟩ : ∃ k : Nat, k < s.size ∧ OddB (bt s (k : Int)) := HM.out.why.resolve_left (by omega)
              obtain ⟨k2, hk2, hodd2⟩ := odd_joined s p k hpv HPB.out hk hodd
              obtain ⟨xa, hxa⟩ : ∃ xa, s.extract 0 p = xa := ⟨_, rfl⟩
              obtain ⟨xb, hxb⟩ : ∃ xb, s.extract (p + 1) s.size = xb := ⟨_, rfl⟩
              have hsa : xa.size ≤ 300 := by rw [← hxa, ByteArray.size_extract]; omega
              have hsb : xb.size ≤ s.size - 1 - p := by rw [← hxb, ByteArray.size_extract]; omega
              have hsa2 : xa.size ≤ p := by rw [← hxa, ByteArray.size_extract]; omega
              rw [hxa, hxb] at hk2 hodd2
              have HOD := Aside0.mk hodd2
              have j1 : ¬ 9223372036854775807 < xa.size + xb.size := by omega
              clear hodd hodd2
              go_wp2_with fail
              go_region
              go_wp2_with fail
              have HX0 := Aside0.mk ((HRW.out.keep (w2 := wr.drew) (below_drew (Below.refl wr.heap.size _)) HRW.out.lt).keep (w2 := wr.drew.alloc (.cells #[.bool false, .slice none 0 0] 132)) ((Below.refl wr.drew.heap.size _).alloc (Nat.le_refl _) _) HRW.out.lt)
              refine (setString_odd wr.drew.heap.size (w.heap.size + 1) k2 (xa ++ xb) te tn pe pn _ (Fresh.new wr.drew) hk2 HOD.out (by rw [ByteArray.size_append]; omega) (HE.out.below HX0.out.below hb8) (by omega) (by have := HRW.out.lt; show w.heap.size + 1 ≤ wr.heap.size; omega)).mono ?_
              rintro e w7 ⟨r7, rfl, hb7⟩
              have HR7 := Aside0.mk (HX0.out.keep hb7 (Nat.lt_succ_self _))
              clear hb7
              go_wp2_with fail
              refine (X97.out _ _).mono ?_
              rintro e w9 ⟨a9, rfl, hb9⟩
              have HR9 := Aside0.mk (HR7.out.keep hb9 HR7.out.lt)
              obtain ⟨d0, d1, f0, f1, hlt, -⟩ := HR9.out
              have HF := Aside0.mk ((HR9.out.below.setCell (p := ⟨w.heap.size, 0, none⟩) (Nat.le_refl _) (.pointer none)).setCell (p := ⟨w.heap.size, 1, none⟩) (Nat.le_refl _) (.int .i32 0))
              clear hb9
              go_wp2_with fail
              exact bodyPost_ret (v := .tuple #[.agg #[.pointer none, .int .i32 0], .iface 140 (.pointer (some a9))]) (by simp [results, Tryd.results75, go_sem, d0, d1, f0, f1, hlt]) rfl ⟨a9, rfl, HF.out⟩
      · subst hei
        obtain ⟨t, ht⟩ : ∃ t, s.extract (j + 1) s.size = t := ⟨_, rfl⟩
        obtain ⟨v, hv⟩ : ∃ v, s.extract 0 j = v := ⟨_, rfl⟩
        have hts : t.size ≤ 400 := by rw [← ht, ByteArray.size_extract]; omega
        have X98 := Lib.hid (fun W hW => parseInt_any t hts W hW)
        have HMC := Aside0.mk (fun hok => man_cut s pI j HR.out HPI.out hj hje hok)
        rw [ht, hv] at HMC
        have m0 : ((j : Int) == -1) = false := beq_false_of_ne (by omega)
        have m1 : ((j : Int) != -1) = true := bne_iff_ne.2 (by omega)
        have m2 : ¬ (j : Int) = -1 := by omega
        have m3 : (0 : Int) ≤ (j : Int) + 1 := by omega
        have m4 : (j : Int) + 1 ≤ (s.size : Int) := by omega
        have m5 : (j : Int) ≤ (s.size : Int) := by omega
        clear hje hts
        go_wp2_with fail
        refine (X98.out wr (H5.out.below HRW.out.below hb8)).mono ?_
        rintro e w5 ⟨x, err, rfl, hcase, hb5⟩
        have HR5 := Aside0.mk (HRW.out.keep hb5 HRW.out.lt)
        clear hb5
        rcases hcase with ⟨rfl, hok, hx1, hx2⟩ | ⟨pp, rfl⟩
        · have HM := Aside0.mk (HMC.out hok)
          clear hok
          rcases HM.out.pt with hpi | ⟨p, hpi, hpv, hpb⟩
          · subst hpi
            have X99 := Lib.hid (fun W => skip_man v (-1) HM.out W)
            have hvs := HM.out.size
            by_cases hbig : v.size ≤ 18
            · have q1 : decide ((v.size : Int) ≤ 18) = true := decide_eq_true (by omega)
              go_wp2_with fail
              refine (X99.out _).mono ?_
              rintro e w7 ⟨nn, rfl, hb7⟩
              have HR7 := Aside0.mk (HR5.out.keep hb7 HR5.out.lt)
              clear hb7
              go_wp2_with fail
              refine (X97.out _ _).mono ?_
              rintro e w9 ⟨a9, rfl, hb9⟩
              have HR9 := Aside0.mk (HR7.out.keep hb9 HR7.out.lt)
              obtain ⟨d0, d1, f0, f1, hlt, -⟩ := HR9.out
              have HF := Aside0.mk ((HR9.out.below.setCell (p := ⟨w.heap.size, 0, none⟩) (Nat.le_refl _) (.pointer none)).setCell (p := ⟨w.heap.size, 1, none⟩) (Nat.le_refl _) (.int .i32 0))
              clear hb9
              go_wp2_with fail
              exact bodyPost_ret (v := .tuple #[.agg #[.pointer none, .int .i32 0], .iface 140 (.pointer (some a9))]) (by simp [results, Tryd.results75, go_sem, d0, d1, f0, f1, hlt]) rfl ⟨a9, rfl, HF.out⟩
            · have q1 : decide ((v.size : Int) ≤ 18) = false := decide_eq_false (by omega)
              obtain ⟨k, hk, hodd⟩ : ∃ k : Nat, k < v.size ∧ OddB (bt v (k : Int)) := HM.out.why.resolve_left (by omega)
              have HOD := Aside0.mk hodd
              clear hodd
              go_wp2_with fail
              have HX0 := Aside0.mk (HR5.out.keep (w2 := w5.alloc (.cells #[.bool false, .slice none 0 0] 132)) ((Below.refl w5.heap.size _).alloc (Nat.le_refl _) _) HR5.out.lt)
              refine (setString_odd w5.heap.size (w.heap.size + 1) k v te tn pe pn _ (Fresh.new w5) hk HOD.out (by omega) (HE.out.below HX0.out.below hb8) (by omega) (by have := HR5.out.lt; omega)).mono ?_
              rintro e w7 ⟨r7, rfl, hb7⟩
              have HR7 := Aside0.mk (HX0.out.keep hb7 (Nat.lt_succ_self _))
              clear hb7
              go_wp2_with fail
              refine (X97.out _ _).mono ?_
              rintro e w9 ⟨a9, rfl, hb9⟩
              have HR9 := Aside0.mk (HR7.out.keep hb9 HR7.out.lt)
              obtain ⟨d0, d1, f0, f1, hlt, -⟩ := HR9.out
              have HF := Aside0.mk ((HR9.out.below.setCell (p := ⟨w.heap.size, 0, none⟩) (Nat.le_refl _) (.pointer none)).setCell (p := ⟨w.heap.size, 1, none⟩) (Nat.le_refl _) (.int .i32 0))
              clear hb9
              go_wp2_with fail
              exact bodyPost_ret (v := .tuple #[.agg #[.pointer none, .int .i32 0], .iface 140 (.pointer (some a9))]) (by simp [results, Tryd.results75, go_sem, d0, d1, f0, f1, hlt]) rfl ⟨a9, rfl, HF.out⟩
          · subst hpi
            have X99 := Lib.hid (fun W => skip_man v (p : Int) HM.out W)
            have hvs := HM.out.size
            have HPB := Aside0.mk hpb
            have n0 : ((p : Int) == -1) = false := beq_false_of_ne (by omega)
            have n1 : ((p : Int) != -1) = true := bne_iff_ne.2 (by omega)
            have n2 : ¬ (p : Int) = -1 := by omega
            have n3 : (0 : Int) ≤ (p : Int) + 1 := by omega
            have n4 : (p : Int) + 1 ≤ (v.size : Int) := by omega
            have n5 : (p : Int) ≤ (v.size : Int) := by omega
            clear hpb
            by_cases hl : p + 1 < v.size
            · have l1 : decide ((p : Int) + 1 < (v.size : Int)) = true := decide_eq_true (by omega)
              have l2 : (p : Int) + 1 < (v.size : Int) := by omega
              obtain ⟨y, hy, hy2, hy3⟩ := bt_nat v (p + 1) hl
              have HB3 := Aside0.mk hy3
              clear hy3 hy2
              by_cases hy45 : y = 45
              · subst hy45
                go_wp2_with (simp only [HB3.out])
                go_wp2_with fail
                refine (X97.out _ _).mono ?_
                rintro e w9 ⟨a9, rfl, hb9⟩
                have HR9 := Aside0.mk (HR5.out.keep hb9 HR5.out.lt)
                obtain ⟨d0, d1, f0, f1, hlt, -⟩ := HR9.out
                have HF := Aside0.mk ((HR9.out.below.setCell (p := ⟨w.heap.size, 0, none⟩) (Nat.le_refl _) (.pointer none)).setCell (p := ⟨w.heap.size, 1, none⟩) (Nat.le_refl _) (.int .i32 0))
                clear hb9
                go_wp2_with fail
                exact bodyPost_ret (v := .tuple #[.agg #[.pointer none, .int .i32 0], .iface 140 (.pointer (some a9))]) (by simp [results, Tryd.results75, go_sem, d0, d1, f0, f1, hlt]) rfl ⟨a9, rfl, HF.out⟩
              · by_cases hy43 : y = 43
                · subst hy43
                  go_wp2_with (simp only [HB3.out])
                  go_wp2_with fail
                  refine (X97.out _ _).mono ?_
                  rintro e w9 ⟨a9, rfl, hb9⟩
                  have HR9 := Aside0.mk (HR5.out.keep hb9 HR5.out.lt)
                  obtain ⟨d0, d1, f0, f1, hlt, -⟩ := HR9.out
                  have HF := Aside0.mk ((HR9.out.below.setCell (p := ⟨w.heap.size, 0, none⟩) (Nat.le_refl _) (.pointer none)).setCell (p := ⟨w.heap.size, 1, none⟩) (Nat.le_refl _) (.int .i32 0))
                  clear hb9
                  go_wp2_with fail
                  exact bodyPost_ret (v := .tuple #[.agg #[.pointer none, .int .i32 0], .iface 140 (.pointer (some a9))]) (by simp [results, Tryd.results75, go_sem, d0, d1, f0, f1, hlt]) rfl ⟨a9, rfl, HF.out⟩
                · have e1 : ((y : Int) == 45) = false := beq_false_of_ne (by omega)
                  have e2 : ((y : Int) == 43) = false := beq_false_of_ne (by omega)
                  by_cases hbig : v.size ≤ 19
                  · have q1 : decide ((v.size : Int) - 1 ≤ 18) = true := decide_eq_true (by omega)
                    go_wp2_with (simp only [HB3.out])
                    refine (X99.out _).mono ?_
                    rintro e w7 ⟨nn, rfl, hb7⟩
                    have HR7 := Aside0.mk (HR5.out.keep hb7 HR5.out.lt)
                    clear hb7
                    go_wp2_with fail
                    refine (X97.out _ _).mono ?_
                    rintro e w9 ⟨a9, rfl, hb9⟩
                    have HR9 := Aside0.mk (HR7.out.keep hb9 HR7.out.lt)
                    obtain ⟨d0, d1, f0, f1, hlt, -⟩ := HR9.out
                    have HF := Aside0.mk ((HR9.out.below.setCell (p := ⟨w.heap.size, 0, none⟩) (Nat.le_refl _) (.pointer none)).setCell (p := ⟨w.heap.size, 1, none⟩) (Nat.le_refl _) (.int .i32 0))
                    clear hb9
                    go_wp2_with fail
                    exact bodyPost_ret (v := .tuple #[.agg #[.pointer none, .int .i32 0], .iface 140 (.pointer (some a9))]) (by simp [results, Tryd.results75, go_sem, d0, d1, f0, f1, hlt]) rfl ⟨a9, rfl, HF.out⟩
                  · have q1 : decide ((v.size : Int) - 1 ≤ 18) = false := decide_eq_false (by omega)
                    obtain ⟨k, hk, hodd⟩ : ∃ k : Nat, k < v.size ∧ OddB (bt v (k : Int)) := HM.out.why.resolve_left (by omega)
                    obtain ⟨k2, hk2, hodd2⟩ := odd_joined v p k hpv HPB.out hk hodd
                    obtain ⟨xa, hxa⟩ : ∃ xa, v.extract 0 p = xa := ⟨_, rfl⟩
                    obtain ⟨xb, hxb⟩ : ∃ xb, v.extract (p + 1) v.size = xb := ⟨_, rfl⟩
                    have hsa : xa.size ≤ 300 := by rw [← hxa, ByteArray.size_extract]; omega
                    have hsb : xb.size ≤ v.size - 1 - p := by rw [← hxb, ByteArray.size_extract]; omega
                    have hsa2 : xa.size ≤ p := by rw [← hxa, ByteArray.size_extract]; omega
                    rw [hxa, hxb] at hk2 hodd2
                    have HOD := Aside0.mk hodd2
                    have j1 : ¬ 9223372036854775807 < xa.size + xb.size := by omega
                    clear hodd hodd2
                    go_wp2_with (simp only [HB3.out])
                    go_region
                    go_wp2_with fail
                    have HX0 := Aside0.mk ((HR5.out.keep (w2 := w5.drew) (below_drew (Below.refl w5.heap.size _)) HR5.out.lt).keep (w2 := w5.drew.alloc (.cells #[.bool false, .slice none 0 0] 132)) ((Below.refl w5.drew.heap.size _).alloc (Nat.le_refl _) _) HR5.out.lt)
                    refine (setString_odd w5.drew.heap.size (w.heap.size + 1) k2 (xa ++ xb) te tn pe pn _ (Fresh.new w5.drew) hk2 HOD.out (by rw [ByteArray.size_append]; omega) (HE.out.below HX0.out.below hb8) (by omega) (by have := HR5.out.lt; show w.heap.size + 1 ≤ w5.heap.size; omega)).mono ?_
                    rintro e w7 ⟨r7, rfl, hb7⟩
                    have HR7 := Aside0.mk (HX0.out.keep hb7 (Nat.lt_succ_self _))
                    clear hb7
                    go_wp2_with fail
                    refine (X97.out _ _).mono ?_
                    rintro e w9 ⟨a9, rfl, hb9⟩
                    have HR9 := Aside0.mk (HR7.out.keep hb9 HR7.out.lt)
                    obtain ⟨d0, d1, f0, f1, hlt, -⟩ := HR9.out
                    have HF := Aside0.mk ((HR9.out.below.setCell (p := ⟨w.heap.size, 0, none⟩) (Nat.le_refl _) (.pointer none)).setCell (p := ⟨w.heap.size, 1, none⟩) (Nat.le_refl _) (.int .i32 0))
                    clear hb9
                    go_wp2_with fail
                    exact bodyPost_ret (v := .tuple #[.agg #[.pointer none, .int .i32 0], .iface 140 (.pointer (some a9))]) (by simp [results, Tryd.results75, go_sem, d0, d1, f0, f1, hlt]) rfl ⟨a9, rfl, HF.out⟩
            · have l1 : decide ((p : Int) + 1 < (v.size : Int)) = false := decide_eq_false (by omega)
              by_cases hbig : v.size ≤ 19
              · have q1 : decide ((v.size : Int) - 1 ≤ 18) = true := decide_eq_true (by omega)
                go_wp2_with fail
                refine (X99.out _).mono ?_
                rintro e w7 ⟨nn, rfl, hb7⟩
                have HR7 := Aside0.mk (HR5.out.keep hb7 HR5.out.lt)
                clear hb7
                go_wp2_with fail
                refine (X97.out _ _).mono ?_
                rintro e w9 ⟨a9, rfl, hb9⟩
                have HR9 := Aside0.mk (HR7.out.keep hb9 HR7.out.lt)
                obtain ⟨d0, d1, f0, f1, hlt, -⟩ := HR9.out
                have HF := Aside0.mk ((HR9.out.below.setCell (p := ⟨w.heap.size, 0, none⟩) (Nat.le_refl _) (.pointer none)).setCell (p := ⟨w.heap.size, 1, none⟩) (Nat.le_refl _) (.int .i32 0))
                clear hb9
                go_wp2_with fail
                exact bodyPost_ret (v := .tuple #[.agg #[.pointer none, .int .i32 0], .iface 140 (.pointer (some a9))]) (by simp [results, Tryd.results75, go_sem, d0, d1, f0, f1, hlt]) rfl ⟨a9, rfl, HF.out⟩
              · have q1 : decide ((v.size : Int) - 1 ≤ 18) = false := decide_eq_false (by omega)
                obtain ⟨k, hk, hodd⟩ : ∃ k : Nat, k < v.size ∧ OddB (bt v (k : Int)) := HM.out.why.resolve_left (by omega)
                obtain ⟨k2, hk2, hodd2⟩ := odd_joined v p k hpv HPB.out hk hodd
                obtain ⟨xa, hxa⟩ : ∃ xa, v.extract 0 p = xa := ⟨_, rfl⟩
                obtain ⟨xb, hxb⟩ : ∃ xb, v.extract (p + 1) v.size = xb := ⟨_, rfl⟩
                have hsa : xa.size ≤ 300 := by rw [← hxa, ByteArray.size_extract]; omega
                have hsb : xb.size ≤ v.size - 1 - p := by rw [← hxb, ByteArray.size_extract]; omega
                have hsa2 : xa.size ≤ p := by rw [← hxa, ByteArray.size_extract]; omega
                rw [hxa, hxb] at hk2 hodd2
                have HOD := Aside0.mk hodd2
                have j1 : ¬ 9223372036854775807 < xa.size + xb.size := by omega
                clear hodd hodd2
                go_wp2_with fail
                go_region
                go_wp2_with fail
                have HX0 := Aside0.mk ((HR5.out.keep (w2 := w5.drew) (below_drew (Below.refl w5.heap.size _)) HR5.out.lt).keep (w2 := w5.drew.alloc (.cells #[.bool false, .slice none 0 0] 132)) ((Below.refl w5.drew.heap.size _).alloc (Nat.le_refl _) _) HR5.out.lt)
                refine (setString_odd w5.drew.heap.size (w.heap.size + 1) k2 (xa ++ xb) te tn pe pn _ (Fresh.new w5.drew) hk2 HOD.out (by rw [ByteArray.size_append]; omega) (HE.out.below HX0.out.below hb8) (by omega) (by have := HR5.out.lt; show w.heap.size + 1 ≤ w5.heap.size; omega)).mono ?_
                rintro e w7 ⟨r7, rfl, hb7⟩
                have HR7 := Aside0.mk (HX0.out.keep hb7 (Nat.lt_succ_self _))
                clear hb7
                go_wp2_with fail
                refine (X97.out _ _).mono ?_
                rintro e w9 ⟨a9, rfl, hb9⟩
                have HR9 := Aside0.mk (HR7.out.keep hb9 HR7.out.lt)
                obtain ⟨d0, d1, f0, f1, hlt, -⟩ := HR9.out
                have HF := Aside0.mk ((HR9.out.below.setCell (p := ⟨w.heap.size, 0, none⟩) (Nat.le_refl _) (.pointer none)).setCell (p := ⟨w.heap.size, 1, none⟩) (Nat.le_refl _) (.int .i32 0))
                clear hb9
                go_wp2_with fail
                exact bodyPost_ret (v := .tuple #[.agg #[.pointer none, .int .i32 0], .iface 140 (.pointer (some a9))]) (by simp [results, Tryd.results75, go_sem, d0, d1, f0, f1, hlt]) rfl ⟨a9, rfl, HF.out⟩
        · skip
          go_wp2_with fail
          refine (X97.out _ _).mono ?_
          rintro e w9 ⟨a9, rfl, hb9⟩
          have HR9 := Aside0.mk (HR5.out.keep hb9 HR5.out.lt)
          obtain ⟨d0, d1, f0, f1, hlt, -⟩ := HR9.out
          have HF := Aside0.mk ((HR9.out.below.setCell (p := ⟨w.heap.size, 0, none⟩) (Nat.le_refl _) (.pointer none)).setCell (p := ⟨w.heap.size, 1, none⟩) (Nat.le_refl _) (.int .i32 0))
          clear hb9
          go_wp2_with fail
          exact bodyPost_ret (v := .tuple #[.agg #[.pointer none, .int .i32 0], .iface 140 (.pointer (some a9))]) (by simp [results, Tryd.results75, go_sem, d0, d1, f0, f1, hlt]) rfl ⟨a9, rfl, HF.out⟩

end Go.Proofs.YthkmgjkajllemaaDoor.Nf
