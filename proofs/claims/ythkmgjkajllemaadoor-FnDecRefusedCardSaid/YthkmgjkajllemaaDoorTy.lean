/- Small functions over texts: zzReplaceAll, errors.New. -/
import Derived.Test.YthkmgjkajllemaaDoorTx
import Derived.Laws.Strings2
import Derived.WalkSpells
import Derived.Lib.Strings
import Derived.Laws.Strings3
namespace Go.Proofs.YthkmgjkajllemaaDoor.Tx
open Go.RowKit Go.Proofs.YthkmgjkajllemaaDoorW.PrintWords Go.Proofs.YthkmgjkajllemaaDoorW.PrintLast Go.Proofs.YthkmgjkajllemaaDoorW.PrintMore
set_option linter.unusedVariables false
set_option linter.unusedSimpArgs false

set_option maxHeartbeats 1000000 in
set_option maxRecDepth 100000 in
theorem skip_empty (skip : Int) (w : World) :
    Calls Tryd.prog 99 #[.string ⟨#[]⟩, .int .i64 skip] w fun e w' => ∃ n : Int, e = .returned (.tuple #[.int .i64 n, .bool false]) ∧ Below w.heap.size w w' := by
  go_enter Tryd.func99, Tryd.ntmps99
  go_wp2
  go_loop [6, 8, 9] (fun v6 v8 v9 => v6 = .int .i64 0 ∧ v8 = .int .i64 0 ∧ v9 = .int .i64 0) (fun _ _ _ => 0)
  case atStart => exact ⟨rfl, rfl, rfl⟩
  case round =>
    obtain ⟨rfl, rfl, rfl⟩ := hrel
    go_wp2
    go_ret2
    exact ⟨⟨_, rfl⟩, Below.refl _ _⟩

theorem errNew_any (s : ByteArray) (w : World) :
    Calls Tryd.prog 97 #[.string s] w fun e w' => ∃ a, e = .returned (.iface 140 (.pointer (some a))) ∧ Below w.heap.size w w' := by
  go_enter Tryd.func97, Tryd.ntmps97
  go_wp2
  go_ret
  exact ⟨_, rfl, (Below.refl _ _).alloc (Nat.le_refl _) _⟩

theorem info5d : (Tryd.prog.info? 5).map (fun i => (i.zero, i.size, i.bytes)) = some (some (.int .u8 0), 1, 1) := by kernel_rfl
/-- The bytes of a text. -/
def bys (s : ByteArray) : List Int := s.data.toList.map (fun b => (b.toNat : Int))

theorem bys_length (s : ByteArray) : (bys s).length = s.size := by simp [bys]
theorem bys_succ (s : ByteArray) (i : Nat) (h : i < s.size) : (bys s).take (i + 1) = (bys s).take i ++ [((s[i]'h).toNat : Int)] := by
  rw [List.take_succ_eq_append_getElem (by rw [bys_length]; exact h)]
  congr 2
  simp [bys]
  rfl
theorem bys_all (s : ByteArray) : strOfNums ((bys s).take s.size) = s := by
  rw [List.take_of_length_le (by rw [bys_length]; omega)]
  have e : (fun n : Int => UInt8.ofNat n.toNat) ∘ (fun b : UInt8 => (b.toNat : Int)) = id := by funext b; simp
  unfold strOfNums bys
  rw [List.map_map, e, List.map_id]
theorem ascii_ne (s : ByteArray) (i : Nat) (hlt : i < s.size) (h : (s[i]'hlt).toNat < 128) : ((s.extract i (i + 3)).toList == [226, 136, 146]) = false := by
  refine beq_eq_false_iff_ne.2 (fun e => ?_)
  have hl : i < s.data.toList.length := by simpa using hlt
  rw [Lib.extract_toList, List.drop_eq_getElem_cons hl, show i + 3 - i = 3 by omega] at e
  simp only [List.take_succ_cons] at e
  injection e with e1 _
  have e2 : (s[i]'hlt) = 226 := by
    rw [← e1]
    simp
    rfl
  rw [e2] at h
  exact absurd h (by decide)

set_option maxHeartbeats 1000000 in
set_option maxRecDepth 100000 in
theorem replace_ascii (s : ByteArray) (ha : ∀ k : Nat, k < s.size → bt s (k : Int) < 128) (hs : s.size < 1000000) (w : World) :
    Calls Tryd.prog 96 #[.string s, .string ⟨#[226, 136, 146]⟩, .string ⟨#[45]⟩] w fun e w' => e = .returned (.string s) ∧ Below w.heap.size w w' := by
  have HA := Aside0.mk ha
  have HB := Aside0.mk (Below.refl w.heap.size w)
  clear ha
  go_enter Tryd.func96, Tryd.ntmps96
  go_wp2
  go_loopw [7, 8] (fun v7 v8 w' => ∃ i : Nat, v8 = .int .i64 i ∧ i ≤ s.size ∧ Aside0 (Kd.R (Kd.int .u8) 5 w' w.heap.size (fun _ => True) v7 ((bys s).take i)) ∧ Aside0 (Below w.heap.size w w')) (fun _ v8 _ => s.size - (intOf v8).toNat)
  case atStart => exact ⟨0, rfl, by omega, ⟨Kd.R_nil _ _ _ _ _⟩, HB⟩
  case round =>
    clear HB
    obtain ⟨i, rfl, hi, HO, HB⟩ := hrel
    by_cases hlt : i < s.size
    · obtain ⟨y, hy, hy2, hy3⟩ := bt_nat s i hlt
      have HB3 := Aside0.mk hy3
      have hps := bys_succ s i hlt
      have hpl : ((bys s).take i).length = i := by rw [List.length_take, bys_length]; omega
      have hy4 : ((s[i]'hlt).toNat : Int) = (y : Int) := HB3.out
      rw [hy4] at hps
      generalize (bys s).take i = ps at HO hps hpl
      have HPS := Aside0.mk hps
      obtain ⟨A7, c7, e7, -, -⟩ := Kd.R_reads HO.out
      subst e7
      clear hy3 hps hy4
      by_cases h3 : i + 3 ≤ s.size
      · have g1 : decide ((i : Int) + 3 ≤ (s.size : Int)) = true := decide_eq_true (by omega)
        have g2 : (i : Int) + 3 ≤ (s.size : Int) := by omega
        have g3 : (i : Int) ≤ (i : Int) + 3 := by omega
        have g4 : (0 : Int) ≤ (i : Int) := by omega
        have g5 := ascii_ne s i hlt (by have := HA.out i hlt; rw [hy2] at this; have h3 := HB3.out; omega)
        go_wp2_with (first | (simp only [HB3.out]) | ((with_reducible refine gate_builtin (b := .append) (xs := #[.tmp 38, .tmp 42]) rfl ?_); at_builtin; go_must (refine Kd.R_append (Kd.int .u8) (w0 := w) w.heap.size rfl (.tmp 38) (.tmp 42) 70 5 (.int .u8 0) 1 rfl Tryd.underlying70 info5d rfl (by decide) (by omega) (.slice A7 ps.length c7) ps ((y : Int)) [.int .u8 (y : Int)] (fun _ => True) (fun _ => False) rfl rfl rfl (fun _ hk => hk.elim) (fun _ _ => trivial) HO.out HB.out HB.out.size (by omega) ?_); intro v1 w1 ho hb hg hat; have HO1 := Aside0.mk ho; have HB1 := Aside0.mk hb; clear ho hb hg hat HO HB))
        go_roundw
        case rel => exact ⟨i + 1, by go_num, by omega, ⟨by rw [HPS.out]; exact HO1.out⟩, HB1⟩
        case measure => simp [intOf]; omega
      · have g1 : decide ((i : Int) + 3 ≤ (s.size : Int)) = false := decide_eq_false (by omega)
        go_wp2_with (first | (simp only [HB3.out]) | ((with_reducible refine gate_builtin (b := .append) (xs := #[.tmp 38, .tmp 42]) rfl ?_); at_builtin; go_must (refine Kd.R_append (Kd.int .u8) (w0 := w) w.heap.size rfl (.tmp 38) (.tmp 42) 70 5 (.int .u8 0) 1 rfl Tryd.underlying70 info5d rfl (by decide) (by omega) (.slice A7 ps.length c7) ps ((y : Int)) [.int .u8 (y : Int)] (fun _ => True) (fun _ => False) rfl rfl rfl (fun _ hk => hk.elim) (fun _ _ => trivial) HO.out HB.out HB.out.size (by omega) ?_); intro v1 w1 ho hb hg hat; have HO1 := Aside0.mk ho; have HB1 := Aside0.mk hb; clear ho hb hg hat HO HB))
        go_roundw
        case rel => exact ⟨i + 1, by go_num, by omega, ⟨by rw [HPS.out]; exact HO1.out⟩, HB1⟩
        case measure => simp [intOf]; omega
    · obtain rfl : i = s.size := by omega
      have hall := bys_all s
      generalize (bys s).take s.size = ps at HO hall
      obtain ⟨A7, c7, e7, -, -⟩ := Kd.R_reads HO.out
      subst e7
      have hcv := own_string (P := Tryd.prog) Tryd.underlying70 Tryd.underlying5 Tryd.underlying9 (Kd.own_of_R HO.out)
      rw [hall] at hcv
      clear hall
      go_wp2
      go_ret
      exact ⟨rfl, HB.out⟩
end Go.Proofs.YthkmgjkajllemaaDoor.Tx
