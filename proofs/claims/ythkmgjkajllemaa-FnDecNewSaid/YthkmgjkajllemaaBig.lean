/- The thin package writes a big integer as its decimal digits, behind a minus sign if it is below 0. -/
import Derived.Test.YthkmgjkajllemaaStr
import Derived.Lib.Hide
import Derived.WalkSpells
import Derived.Laws.Bits64
import Derived.Laws.BitsAllLaws
namespace Go.Proofs.Ythkmgjkajllemaa.Big
open Go.RowKit Go.Proofs.YthkmgjkajllemaaW.PrintWords Go.Proofs.YthkmgjkajllemaaW.PrintLast Go.Proofs.YthkmgjkajllemaaW.PrintMore Go.Proofs.Ythkmgjkajllemaa.Num Go.Proofs.Ythkmgjkajllemaa.Str
set_option linter.unusedVariables false
set_option linter.unusedSimpArgs false

/-- The text of a number with a sign. -/
def textZ (neg : Bool) (N : Nat) : ByteArray := if N = 0 then ⟨#[48]⟩ else strOfNums (decs N ++ (if neg then [45] else [])).reverse
theorem info5 : (Try.prog.info? 5).map (fun i => (i.zero, i.size, i.bytes)) = some (some (.int .u8 0), 1, 1) := by kernel_rfl
theorem info22 : (Try.prog.info? 22).map (fun i => (i.zero, i.size, i.bytes)) = some (some (.int .u64 0), 1, 8) := by kernel_rfl

/-- A slice's length. -/
def slen : Value → Nat
  | .slice _ n _ => n
  | _ => 0
/-- What words of 64 bits are worth. -/
def v64 : List Int → Int
  | [] => 0
  | x :: l => x + 18446744073709551616 * v64 l
/-- What words of 32 bits are worth. -/
def v32 : List Int → Int
  | [] => 0
  | x :: l => x + 4294967296 * v32 l
/-- Words of 64 bits as words of 32 bits. -/
def spl : List Int → List Int
  | [] => []
  | x :: l => (x % 4294967296) :: (x / 4294967296) :: spl l
theorem spl_append (l r : List Int) : spl (l ++ r) = spl l ++ spl r := by
  induction l with
  | nil => rfl
  | cons x l ih => simp [spl, ih]
theorem spl_length (l : List Int) : (spl l).length = 2 * l.length := by
  induction l with
  | nil => rfl
  | cons x l ih => simp [spl, ih]; omega
theorem v32_spl (l : List Int) : v32 (spl l) = v64 l := by
  induction l with
  | nil => rfl
  | cons x l ih => simp only [spl, v32, v64, ih]; omega

theorem v32_nonneg (l : List Int) (h : ∀ k, 0 ≤ l.getD k 0 ∧ l.getD k 0 < 4294967296) : 0 ≤ v32 l := by
  induction l with
  | nil => exact Int.le_refl _
  | cons x l ih =>
    have h0 := h 0
    have := ih (fun k => by have := h (k + 1); simpa using this)
    simp at h0
    simp only [v32]
    omega
theorem v32_drop (l : List Int) (k : Nat) : v32 (l.drop k) = l.getD k 0 + 4294967296 * v32 (l.drop (k + 1)) := by
  by_cases h : k < l.length
  · rw [List.drop_eq_getElem_cons h, v32, List.getD_eq_getElem?_getD, List.getElem?_eq_getElem h]
    rfl
  · rw [List.drop_eq_nil_of_le (by omega), List.drop_eq_nil_of_le (by omega), List.getD_eq_getElem?_getD, List.getElem?_eq_none (by omega)]
    rfl
theorem v32_snoc_zero (l : List Int) : v32 (l ++ [0]) = v32 l := by
  induction l with
  | nil => rfl
  | cons x l ih => simp only [List.cons_append, v32, ih]
/-- All words are words of 32 bits. -/
def W32 (l : List Int) : Prop := ∀ k, 0 ≤ l.getD k 0 ∧ l.getD k 0 < 4294967296
theorem spl_W32 (l : List Int) (h : ∀ x ∈ l, 0 ≤ x ∧ x < 18446744073709551616) : W32 (spl l) := by
  induction l with
  | nil => intro k; simp [spl]
  | cons x l ih =>
    intro k
    have hx := h x (by simp)
    match k with
    | 0 => simp [spl]; omega
    | 1 => simp [spl]; omega
    | k + 2 => simpa [spl] using ih (fun y hy => h y (by simp [hy])) k
/-- How far the division by nine digits has come: the words from k on are divided, n is left. -/
structure Divided (xs ys : List Int) (k n : Nat) : Prop where
  len : ys.length = xs.length
  low : ∀ i, i < k → ys.getD i 0 = xs.getD i 0
  quo : v32 (ys.drop k) * 1000000000 + n = v32 (xs.drop k)
  left : n < 1000000000
  w32 : W32 ys
theorem v32_take (l : List Int) (z : Nat) (hl : l.length = z + 1) (h0 : l.getD z 0 = 0) : v32 (l.take z) = v32 l := by
  have e : l = l.take z ++ [0] := by
    have h1 := List.take_append_drop z l
    rw [List.drop_eq_getElem_cons (by omega : z < l.length), List.drop_eq_nil_of_le (by omega : l.length ≤ z + 1)] at h1
    rw [List.getD_eq_getElem?_getD, List.getElem?_eq_getElem (by omega : z < l.length), Option.getD_some] at h0
    rw [h0] at h1
    exact h1.symm
  conv => rhs; rw [e]
  rw [v32_snoc_zero]
theorem W32.take {l : List Int} (h : W32 l) (z : Nat) : W32 (l.take z) := by
  intro k
  have := h k
  rw [List.getD_eq_getElem?_getD] at this ⊢
  rw [List.getElem?_take]
  split
  · exact this
  · simp
theorem v32_top (l : List Int) (h : W32 l) (z : Nat) (hl : z < l.length) (hx : 0 < l.getD z 0) : 0 < v32 l := by
  induction l generalizing z with
  | nil => simp at hl
  | cons x l ih =>
    have h0 := h 0
    have ht : W32 l := fun k => by have := h (k + 1); simpa using this
    have hn := v32_nonneg l ht
    simp at h0
    simp only [v32]
    cases z with
    | zero => simp at hx; omega
    | succ z =>
      have := ih ht z (by simpa using hl) (by simpa using hx)
      omega
theorem Divided.start (xs : List Int) (h : W32 xs) : Divided xs xs xs.length 0 :=
  ⟨rfl, fun _ _ => rfl, by simp [v32], by omega, h⟩
theorem Divided.step {xs ys : List Int} {k n : Nat} (h : Divided xs ys (k + 1) n) (hk : k < xs.length) (hx : W32 xs) {x : Nat} (he : xs.getD k 0 = x) :
    Divided xs (ys.set k (((n * 4294967296 + x) / 1000000000 : Nat) : Int)) k ((n * 4294967296 + x) % 1000000000) := by
  have hl := h.len
  have hn := h.left
  have hxk := hx k
  rw [he] at hxk
  refine ⟨by simp [hl], fun i hi => ?_, ?_, by omega, fun i => ?_⟩
  · rw [getD_set _ _ _ _ (by omega), if_neg (by omega)]
    exact h.low i (by omega)
  · rw [v32_drop, v32_drop xs k, he, getD_set _ _ _ _ (by omega), if_pos rfl]
    have e : (ys.set k (((n * 4294967296 + x) / 1000000000 : Nat) : Int)).drop (k + 1) = ys.drop (k + 1) := by
      rw [List.drop_set, if_pos (by omega)]
    rw [e]
    have := h.quo
    omega
  · rw [getD_set _ _ _ _ (by omega)]
    split
    · omega
    · exact h.w32 i

/-- A big integer in memory. -/
structure IsInt (w : World) (g : Nat) (neg : Bool) (ws : List Int) : Prop where
  neg : w.cell? ⟨g, 0, none⟩ = some (.bool neg)
  abs : ∃ A c, w.cell? ⟨g, 1, none⟩ = some (.slice A ws.length c) ∧ ws.length ≤ c ∧ Kd.C (Kd.int .u64) w A ws.length ws

theorem C_two {k : IntKind} {w : World} {g : Nat} {x y : Int} (h : w.cell? ⟨g, 0, none⟩ = some (.int k x)) (h1 : w.cell? ⟨g, 1, none⟩ = some (.int k y)) : (Kd.int k).C w (some ⟨g, 0, none⟩) 2 [x, y] :=
  Kd.C_of_reads (enc := Value.int k) (d := (0 : Int)) ⟨rfl, by omega, fun _ => ⟨_, rfl, fun j hj => by
    match j, hj with
    | 0, _ => simpa [add_plain] using h
    | 1, _ => simpa [add_plain] using h1⟩⟩

theorem rows_two {k : IntKind} {w w1 : World} {g : Nat} {x y : Int} (h : w.cell? ⟨g, 0, none⟩ = some (.int k x)) (h1 : w.cell? ⟨g, 1, none⟩ = some (.int k y)) : ReadsRow ((Kd.int k).K w1) (Kd.int k).sz w (some ⟨g, 0, none⟩) 2 [x, y] := C_two h h1
theorem and32 (x : Nat) (h : x < 18446744073709551616) : bits .and .u64 (x : Int) 4294967295 = ((x % 4294967296 : Nat) : Int) := by
  rw [show (4294967295 : Int) = ((4294967295 : Nat) : Int) from rfl, u64_and_nat x 4294967295 h (by decide)]
  rw [show (4294967295 : Nat) = 2 ^ 32 - 1 from rfl, Nat.and_two_pow_sub_one_eq_mod]
theorem or32 (n x : Nat) (hn : n < 4294967296) (hx : x < 4294967296) : bits .or .u64 ((n : Int) * 4294967296) (x : Int) = ((n * 4294967296 + x : Nat) : Int) := by
  rw [show (n : Int) * 4294967296 = ((n * 4294967296 : Nat) : Int) by omega, u64_or_nat (n * 4294967296) x (by omega) (by omega)]
  rw [show n * 4294967296 = n <<< 32 by rw [Nat.shiftLeft_eq], ← Nat.shiftLeft_add_eq_or_of_lt (by omega : x < 2 ^ 32)]

theorem bits_any (g : Nat) (ws : List Int) (A : Option Addr) (c : Nat) (w : World) (h : w.cell? ⟨g, 1, none⟩ = some (.slice A ws.length c)) :
    Calls Try.prog 37 #[.pointer (some ⟨g, 0, none⟩)] w fun e w' => e = .returned (.slice A ws.length c) ∧ w = w' := by
  go_enter Try.func37, Try.ntmps37
  go_wp2
  go_ret
  exact ⟨rfl, rfl⟩
theorem sign_any (g : Nat) (neg : Bool) (ws : List Int) (A : Option Addr) (c : Nat) (w : World) (h0 : w.cell? ⟨g, 0, none⟩ = some (.bool neg)) (h : w.cell? ⟨g, 1, none⟩ = some (.slice A ws.length c)) (hp : 0 < ws.length) :
    Calls Try.prog 35 #[.pointer (some ⟨g, 0, none⟩)] w fun e w' => e = .returned (.int .i64 (if neg then -1 else 1)) ∧ w = w' := by
  cases neg <;> (go_enter Try.func35, Try.ntmps35; go_wp2; go_ret; exact ⟨rfl, rfl⟩)

set_option maxHeartbeats 4000000 in
set_option maxRecDepth 100000 in
theorem digits_any (g : Nat) (neg : Bool) (ws : List Int) (w : World) (hI : IsInt w g neg ws) (hw : ∀ x ∈ ws, 0 ≤ x ∧ x < 18446744073709551616) (hl : ws.length < 1000000) (N : Nat) (hN : v64 ws = N) (hdl : (decs N).length < 1000000000) :
    Calls Try.prog 24 #[.pointer (some ⟨g, 0, none⟩)] w fun e w' => e = .returned (.string (textZ neg N)) ∧ Below w.heap.size w w' := by
  obtain ⟨hneg, A, c, habs, hc, hr⟩ := hI
  have HR := Aside0.mk hr
  have HB := Aside0.mk (Below.refl w.heap.size w)
  have HN := Aside0.mk hN
  have HWS := Aside0.mk hw
  clear hr hN hw
  have HBITS := Lib.hid (bits_any g ws A c w habs)
  go_enter Try.func24, Try.ntmps24
  go_wp2_with (go_at_call 37; refine HBITS.out.mono ?_; rintro e w' ⟨rfl, rfl⟩)
  go_loopw [3, 15] (fun v3 v15 w' => ∃ (i : Nat), v15 = .int .i64 i ∧ i ≤ ws.length ∧ Aside0 (Kd.R (Kd.int .u64) 22 w' w.heap.size (fun _ => True) v3 (spl (ws.take i))) ∧ Aside0 (Below w.heap.size w w')) (fun _ v15 _ => ws.length - (intOf v15).toNat)
  case atStart => exact ⟨0, rfl, Nat.zero_le _, ⟨Kd.R_nil _ _ _ _ _⟩, HB⟩
  case round =>
    clear HB
    obtain ⟨i, rfl, hi, HO, HB⟩ := hrel
    by_cases hlt : i < ws.length
    · obtain ⟨ad, e0, hc0⟩ := Kd.at_int HR.out (i : Int) (by omega) (by omega)
      have hc1 := (HB.out.cell (World.block_lt_of_cell? w _ hc0)).trans hc0
      have hx := HWS.out (ws.getD i 0) (by rw [List.getD_eq_getElem?_getD, List.getElem?_eq_getElem hlt]; simp)
      have HT : Aside0 (spl (ws.take (i + 1)) = spl (ws.take i) ++ [ws.getD i 0 % 4294967296, ws.getD i 0 / 4294967296]) := ⟨by
        rw [List.take_succ_eq_append_getElem hlt, spl_append, List.getD_eq_getElem?_getD, List.getElem?_eq_getElem hlt]
        rfl⟩
      unfold rd at hc1
      rw [Int.toNat_natCast] at hc1
      obtain ⟨x, hx2⟩ : ∃ x : Nat, ws.getD i 0 = x := Int.eq_ofNat_of_zero_le hx.1
      rw [hx2] at hc1 hx HT
      have hx1 : x < 18446744073709551616 := by omega
      subst e0
      clear hc0 hx2 hx
      have hand := and32 x hx1
      go_wp2_with (first | ((with_reducible refine gate_builtin (b := .append) (xs := #[.tmp 19, .tmp 24]) rfl ?_); at_builtin; go_must (refine Kd.R_append_rows (Kd.int .u64) (Rr := (Kd.int .u64).K wr) (w0 := w) w.heap.size rfl (.tmp 19) (.tmp 24) 78 22 (.int .u64 0) 8 rfl Try.underlying78 info22 rfl (by decide) (by omega) u3 (spl (ws.take i)) [(x : Int) % 4294967296, (x : Int) / 4294967296] (some ⟨wr.heap.size, 0, none⟩) 2 2 (fun _ => True) (fun _ => False) rfl rfl (Kd.R_alloc HO.out _) (rows_two (by go_simp) (by go_simp)) (fun _ _ h => h) (fun _ hk => hk.elim) (fun _ _ => trivial) (below_alloc HB.out _) (by have := HB.out.size; simp; omega) (by rw [spl_length, List.length_take]; omega) ?_); intro v1 w1 ho hb hg hat; have HO1 := Aside0.mk ho; have HB1 := Aside0.mk hb; clear ho hb hg hat HO HB))
      go_roundw
      case rel => exact ⟨i + 1, by go_num, by omega, ⟨by rw [HT.out]; exact HO1.out⟩, HB1⟩
      case measure => simp [intOf]; omega
    · obtain rfl : i = ws.length := by omega
      rw [List.take_length] at HO
      have HD0 : Aside0 (W32 (spl ws)) := ⟨spl_W32 ws HWS.out⟩
      have HV0 : Aside0 (v32 (spl ws) = (N : Int)) := ⟨(v32_spl ws).trans HN.out⟩
      have hsl := spl_length ws
      generalize spl ws = xs0 at HO HD0 HV0 hsl
      obtain ⟨A3, c3, e3, _, _⟩ := Kd.R_reads HO.out
      subst e3
      have hxl : xs0.length ≤ 2000000 := by omega
      clear hsl HWS
      go_wp2
      go_loopg [3, 6, 7] (N + xs0.length) (fun kq v3 v6 v7 w' => ∃ (xs bs : List Int) (M : Nat), v3 = .slice A3 xs.length c3 ∧ xs.length ≤ xs0.length ∧ Aside0 (M + xs.length ≤ kq) ∧ Aside0 (W32 xs) ∧ Aside0 (v32 xs = (M : Int)) ∧ Aside0 (bs ++ decs M = decs N) ∧ Aside0 (Kd.R (Kd.int .u64) 22 w' w.heap.size (fun _ => True) (.slice A3 xs.length c3) xs) ∧ Aside0 (Kd.R (Kd.int .u8) 5 w' w.heap.size (fun _ => True) v6 bs) ∧ Aside0 (Below w.heap.size w w'))
      case atStart => exact ⟨xs0, [], N, rfl, Nat.le_refl _, ⟨Nat.le_refl _⟩, HD0, HV0, ⟨rfl⟩, HO, ⟨Kd.R_nil _ _ _ _ _⟩, HB⟩
      case round =>
        clear HO HB HD0 HV0
        obtain ⟨xs, bs, M, rfl, hxx, HK, HD, HV, HX, HO, HP, HB⟩ := hrel
        by_cases hlt : 0 < xs.length
        · obtain ⟨g3, c4, eg, hg3, hg4, cells, hcells⟩ := Kd.R_form HO.out hlt
          injection eg with ea _ ec
          subst ea
          subst ec
          clear hg4
          have HCB := Aside0.mk hcells
          clear hcells
          go_wp2
          go_loopw [7, 8] (fun v7 v8 w' => ∃ (ys : List Int) (k n : Nat), v7 = .int .u64 n ∧ v8 = .int .i64 ((k : Int) - 1) ∧ k ≤ xs.length ∧ n < 1000000000 ∧ Aside0 (Divided xs ys k n) ∧ Aside0 (Kd.R (Kd.int .u64) 22 w' w.heap.size (fun _ => True) (.slice (some ⟨g3, 0, none⟩) xs.length c3) ys) ∧ Aside0 (∃ cells, w'.heap[g3]? = some (.cells cells 22 (0, 0))) ∧ Aside0 (Kd.R (Kd.int .u8) 5 w' w.heap.size (fun _ => True) u6 bs) ∧ Aside0 (Below w.heap.size w w')) (fun _ v8 _ => (intOf v8 + 1).toNat)
          case atStart => exact ⟨xs, xs.length, 0, rfl, rfl, Nat.le_refl _, by omega, ⟨Divided.start xs HD.out⟩, HO, ⟨_, HCB.out⟩, HP, HB⟩
          case round =>
            clear HO HCB HP HB
            obtain ⟨ys, k, n, rfl, rfl, hk, hn, HDV, HO, HCB, HP, HB⟩ := hrel
            cases k with
            | succ k =>
              obtain ⟨hx1, hf1⟩ := Kd.R_celln 0 HO.out (k : Int) (by omega) (by omega)
              have hlow := HDV.out.low k (by omega)
              have hxk := HD.out k
              obtain ⟨x, hx⟩ : ∃ x : Nat, xs.getD k 0 = x := Int.eq_ofNat_of_zero_le hxk.1
              unfold rdOf at hx1
              rw [Int.toNat_natCast] at hx1 hf1
              rw [hlow, hx] at hx1
              rw [hx] at hxk
              have hor := or32 n x (by omega) (by omega)
              have hst := HDV.out.step (by omega) HD.out hx
              obtain ⟨m, hm⟩ : ∃ m, n * 4294967296 + x = m := ⟨_, rfl⟩
              rw [hm] at hor hst
              have hmb : m < 4611686018427387904 := by omega
              have HP1 := Aside0.mk (Kd.R_putn HO.out (k : Int) ((m / 1000000000 : Nat) : Int))
              have HST := Aside0.mk hst
              obtain ⟨cells, hcells⟩ := HCB.out
              have HPP := Aside0.mk (Kd.R_set HP.out hcells (by intro q hq h; subst h; simp [Kd.int, Kd.scalar] at hq) k (.int .u64 ((m / 1000000000 : Nat) : Int)))
              have HC2 : Aside0 (∃ cells, (wr.setCell ⟨g3, k, none⟩ (.int .u64 ((m / 1000000000 : Nat) : Int))).heap[g3]? = some (.cells cells 22 (0, 0))) := ⟨_, blk_set hcells k _⟩
              have HB2 : Aside0 (Below w.heap.size w (wr.setCell ⟨g3, k, none⟩ (.int .u64 ((m / 1000000000 : Nat) : Int)))) := ⟨below_set HB.out hg3⟩
              rw [Int.toNat_natCast] at HP1
              have hv : ((k + 1 : Nat) : Int) - 1 = k := by omega
              rw [hv]
              clear hlow hxk hm hst hcells HO HCB HP HB hv
              go_wp2
              go_roundw
              case rel => exact ⟨_, k, m % 1000000000, by go_num, rfl, by omega, by omega, HST, HP1, HC2, HPP, HB2⟩
              case measure => simp [intOf]
            | zero =>
              have hquo := HDV.out.quo
              obtain ⟨q, hq⟩ : ∃ q : Nat, v32 ys = q := Int.eq_ofNat_of_zero_le (v32_nonneg ys HDV.out.w32)
              have hyl := HDV.out.len
              have HYW : Aside0 (W32 ys) := ⟨HDV.out.w32⟩
              have HQV : Aside0 (v32 ys = (q : Int)) := ⟨hq⟩
              rw [List.drop_zero, List.drop_zero, hq, HV.out] at hquo
              have hM : M = q * 1000000000 + n := by omega
              have HX1 : Aside0 (bs ++ remd 0 n q = decs N) := ⟨by rw [← HX.out, remd_start M, hM, show (q * 1000000000 + n) % 1000000000 = n by omega, show (q * 1000000000 + n) / 1000000000 = q by omega]⟩
              have HKM : Aside0 (q * 1000000000 + n + xs.length ≤ gk) := ⟨by have := HK.out; omega⟩
              clear hquo hq HDV HX HV HK HD hM
              go_wp2
              rw [← hyl] at HO
              obtain ⟨z0, hz0⟩ : ∃ z0, ys.length = z0 := ⟨_, rfl⟩
              go_loop [3] (fun v3 => ∃ (zs : List Int) (z : Nat), zs.length = z ∧ v3 = .slice (some ⟨g3, 0, none⟩) z c3 ∧ z ≤ xs.length ∧ Aside0 (W32 zs) ∧ Aside0 (v32 zs = (q : Int)) ∧ Aside0 (Kd.R (Kd.int .u64) 22 wr w.heap.size (fun _ => True) (.slice (some ⟨g3, 0, none⟩) z c3) zs)) (fun v3 => slen v3)
              case atStart => exact ⟨ys, ys.length, rfl, by rw [hyl], by omega, HYW, HQV, HO⟩
              case round =>
                clear HO HYW HQV hz0 hyl
                obtain ⟨zs, z, hzl, rfl, hzx, HZW, HZV, HZ⟩ := hrel
                by_cases hcont : 0 < z ∧ zs.getD (z - 1) 0 = 0
                · obtain ⟨hz1, hz2⟩ := hcont
                  obtain ⟨z, rfl⟩ : ∃ y, z = y + 1 := ⟨z - 1, by omega⟩
                  rw [Nat.add_sub_cancel] at hz2
                  obtain ⟨hx1, hf1⟩ := Kd.R_celln 0 HZ.out (z : Int) (by omega) (by omega)
                  unfold rdOf at hx1
                  rw [Int.toNat_natCast] at hx1 hf1
                  rw [hz2] at hx1
                  have hv : ((z + 1 : Nat) : Int) - 1 = z := by omega
                  have HT := Aside0.mk (Kd.R_take HZ.out (show z ≤ zs.length by omega))
                  have HTV : Aside0 (v32 (zs.take z) = (q : Int)) := ⟨by rw [v32_take zs z hzl hz2]; exact HZV.out⟩
                  go_wp2
                  go_round
                  case rel => exact ⟨_, z, by rw [List.length_take]; omega, rfl, by omega, ⟨HZW.out.take z⟩, HTV, HT⟩
                  case measure => simp [slen]
                · have HZQ : Aside0 (0 < z ↔ 0 < q) := by
                    refine ⟨⟨fun hz => ?_, fun hq => ?_⟩⟩
                    · have h1 := HZW.out (z - 1)
                      have h2 := v32_top zs HZW.out (z - 1) (by omega) (by have : ¬ zs.getD (z - 1) 0 = 0 := fun h => hcont ⟨hz, h⟩; omega)
                      have := HZV.out
                      omega
                    · rcases Nat.eq_zero_or_pos z with h | h
                      · subst h
                        have h1 : zs = [] := List.length_eq_zero_iff.1 hzl
                        have h2 := HZV.out
                        rw [h1] at h2
                        simp [v32] at h2
                        omega
                      · exact h
                  have hcase : z = 0 ∨ 0 < z := by omega
                  rcases hcase with hz1 | hz1
                  · subst hz1
                    go_wp2
                    go_loopw [6, 7, 9] (fun v6 v7 v9 w' => ∃ (ds : List Int) (y j : Nat), v7 = .int .u64 y ∧ v9 = .int .i64 j ∧ j ≤ 9 ∧ y < 10 ^ (9 - j) ∧ Aside0 (ds ++ remd j y q = decs N) ∧ Aside0 (Kd.R (Kd.int .u64) 22 w' w.heap.size (fun _ => True) (.slice (some ⟨g3, 0, none⟩) 0 c3) zs) ∧ Aside0 (Kd.R (Kd.int .u8) 5 w' w.heap.size (fun _ => True) v6 ds) ∧ Aside0 (Below w.heap.size w w')) (fun _ _ v9 _ => 9 - (intOf v9).toNat)
                    case atStart => exact ⟨bs, n, 0, rfl, rfl, by omega, by omega, HX1, HZ, HP, HB⟩
                    case round =>
                      clear HX1 HZ HP HB
                      obtain ⟨ds, y, j, rfl, rfl, hj, hy, HX, HZ, HP, HB⟩ := hrel
                      have hy9 : y < 1000000000 := Nat.lt_of_lt_of_le hy (Nat.pow_le_pow_right (by omega) (show 9 - j ≤ 9 by omega))
                      have hdl : ds.length < 1000000000 := by
                        have h := congrArg List.length HX.out
                        rw [List.length_append] at h
                        omega
                      by_cases hj9 : j < 9
                      · have hj9b : decide ((j : Int) < 9) = true := decide_eq_true (by omega)
                        by_cases hmore : 0 < y ∨ 0 < 0
                        · have hstep := remd_step j y q hj9 (hmore.imp_right (fun h => absurd h (by omega)))
                          have hy' : y / 10 < 10 ^ (9 - (j + 1)) := by
                            rw [show 9 - j = (9 - (j + 1)) + 1 by omega, Nat.pow_succ] at hy
                            omega
                          have HX2 : Aside0 ((ds ++ [((48 + y % 10 : Nat) : Int)]) ++ remd (j + 1) (y / 10) q = decs N) := ⟨by rw [← HX.out, hstep]; simp⟩
                          clear hstep hy
                          by_cases hy0 : 0 < y
                          · go_wp2_with (first | ((with_reducible refine gate_builtin (b := .append) (xs := #[.tmp 81, .tmp 86]) rfl ?_); at_builtin; go_must (refine Kd.R_append (Kd.int .u8) (w0 := w) w.heap.size rfl (.tmp 81) (.tmp 86) 70 5 (.int .u8 0) 1 rfl Try.underlying70 info5 rfl (by decide) (by omega) u6 ds (48 + (y : Int) % 10) [.int .u8 (48 + (y : Int) % 10)] (fun _ => True) (fun _ => False) rfl rfl rfl (fun _ hk => hk.elim) (fun _ _ => trivial) HP.out HB.out HB.out.size (by omega) ?_); intro v1 w1 ho hb hg hat; have HP1 := Aside0.mk ho; have HB1 := Aside0.mk hb; have HZ1 := Aside0.mk (Kd.R_over HZ.out HP.out (by intro t ht h; subst h; simp [Kd.int, Kd.scalar] at ht) hg); clear ho hb hg hat HP HB HZ))
                            go_roundw
                            case rel => exact ⟨_, y / 10, j + 1, by go_num, by go_num, by omega, hy', HX2, HZ1, HP1, HB1⟩
                            case measure => simp [intOf]; omega
                          · obtain rfl : y = 0 := by omega
                            exact absurd hmore (by omega)
                        · obtain rfl : y = 0 := by omega
                          have hq0 : q = 0 := by have := HZQ.out; omega
                          have HX3 : Aside0 (ds ++ decs q = decs N) := ⟨by rw [← HX.out, hq0, remd_end0]⟩
                          clear HX
                          go_wp2
                          go_roundg q
                          case rel => exact ⟨zs, ds, q, by rw [hzl], by omega, ⟨by omega⟩, HZW, HZV, HX3, by rw [hzl]; exact HZ, HP, HB⟩
                          case measure => have := HKM.out; omega
                      · obtain rfl : j = 9 := by omega
                        obtain rfl : y = 0 := by simpa using hy
                        have HX3 : Aside0 (ds ++ decs q = decs N) := ⟨by rw [← HX.out, remd_end9 0 q (by omega)]⟩
                        clear HX
                        go_wp2
                        go_roundg (q + 0)
                        case rel => exact ⟨zs, ds, q, by rw [hzl], by omega, ⟨by omega⟩, HZW, HZV, HX3, by rw [hzl]; exact HZ, HP, HB⟩
                        case measure => have := HKM.out; have := HZQ.out; omega
                  · have hz2 : ¬ zs.getD (z - 1) 0 = 0 := fun h => hcont ⟨hz1, h⟩
                    obtain ⟨hx1, hf1⟩ := Kd.R_celln 0 HZ.out ((z : Int) - 1) (by omega) (by omega)
                    have hx3 := HZW.out (z - 1)
                    obtain ⟨x, hx4⟩ : ∃ x : Nat, zs.getD (z - 1) 0 = x := Int.eq_ofNat_of_zero_le hx3.1
                    unfold rdOf at hx1
                    rw [show ((z : Int) - 1).toNat = z - 1 by omega] at hx1 hf1
                    rw [hx4] at hx1 hx3 hz2
                    have hzb : decide (0 < (z : Int)) = true := decide_eq_true (by omega)
                    go_wp2
                    clear hx1 hf1
                    go_loopw [6, 7, 9] (fun v6 v7 v9 w' => ∃ (ds : List Int) (y j : Nat), v7 = .int .u64 y ∧ v9 = .int .i64 j ∧ j ≤ 9 ∧ y < 10 ^ (9 - j) ∧ Aside0 (ds ++ remd j y q = decs N) ∧ Aside0 (Kd.R (Kd.int .u64) 22 w' w.heap.size (fun _ => True) (.slice (some ⟨g3, 0, none⟩) z c3) zs) ∧ Aside0 (Kd.R (Kd.int .u8) 5 w' w.heap.size (fun _ => True) v6 ds) ∧ Aside0 (Below w.heap.size w w')) (fun _ _ v9 _ => 9 - (intOf v9).toNat)
                    case atStart => exact ⟨bs, n, 0, rfl, rfl, by omega, by omega, HX1, HZ, HP, HB⟩
                    case round =>
                      clear HX1 HZ HP HB
                      obtain ⟨ds, y, j, rfl, rfl, hj, hy, HX, HZ, HP, HB⟩ := hrel
                      have hy9 : y < 1000000000 := Nat.lt_of_lt_of_le hy (Nat.pow_le_pow_right (by omega) (show 9 - j ≤ 9 by omega))
                      have hdl : ds.length < 1000000000 := by
                        have h := congrArg List.length HX.out
                        rw [List.length_append] at h
                        omega
                      by_cases hj9 : j < 9
                      · have hj9b : decide ((j : Int) < 9) = true := decide_eq_true (by omega)
                        by_cases hmore : 0 < y ∨ 0 < z
                        · have hstep := remd_step j y q hj9 (hmore.imp_right HZQ.out.1)
                          have hy' : y / 10 < 10 ^ (9 - (j + 1)) := by
                            rw [show 9 - j = (9 - (j + 1)) + 1 by omega, Nat.pow_succ] at hy
                            omega
                          have HX2 : Aside0 ((ds ++ [((48 + y % 10 : Nat) : Int)]) ++ remd (j + 1) (y / 10) q = decs N) := ⟨by rw [← HX.out, hstep]; simp⟩
                          clear hstep hy
                          by_cases hy0 : 0 < y
                          · go_wp2_with (first | ((with_reducible refine gate_builtin (b := .append) (xs := #[.tmp 81, .tmp 86]) rfl ?_); at_builtin; go_must (refine Kd.R_append (Kd.int .u8) (w0 := w) w.heap.size rfl (.tmp 81) (.tmp 86) 70 5 (.int .u8 0) 1 rfl Try.underlying70 info5 rfl (by decide) (by omega) u6 ds (48 + (y : Int) % 10) [.int .u8 (48 + (y : Int) % 10)] (fun _ => True) (fun _ => False) rfl rfl rfl (fun _ hk => hk.elim) (fun _ _ => trivial) HP.out HB.out HB.out.size (by omega) ?_); intro v1 w1 ho hb hg hat; have HP1 := Aside0.mk ho; have HB1 := Aside0.mk hb; have HZ1 := Aside0.mk (Kd.R_over HZ.out HP.out (by intro t ht h; subst h; simp [Kd.int, Kd.scalar] at ht) hg); clear ho hb hg hat HP HB HZ))
                            go_roundw
                            case rel => exact ⟨_, y / 10, j + 1, by go_num, by go_num, by omega, hy', HX2, HZ1, HP1, HB1⟩
                            case measure => simp [intOf]; omega
                          · obtain rfl : y = 0 := by omega
                            have hzp : 0 < z := by omega
                            have hzb : decide (0 < (z : Int)) = true := decide_eq_true (by omega)
                            go_wp2_with (first | ((with_reducible refine gate_builtin (b := .append) (xs := #[.tmp 81, .tmp 86]) rfl ?_); at_builtin; go_must (refine Kd.R_append (Kd.int .u8) (w0 := w) w.heap.size rfl (.tmp 81) (.tmp 86) 70 5 (.int .u8 0) 1 rfl Try.underlying70 info5 rfl (by decide) (by omega) u6 ds (48) [.int .u8 (48)] (fun _ => True) (fun _ => False) rfl rfl rfl (fun _ hk => hk.elim) (fun _ _ => trivial) HP.out HB.out HB.out.size (by omega) ?_); intro v1 w1 ho hb hg hat; have HP1 := Aside0.mk ho; have HB1 := Aside0.mk hb; have HZ1 := Aside0.mk (Kd.R_over HZ.out HP.out (by intro t ht h; subst h; simp [Kd.int, Kd.scalar] at ht) hg); clear ho hb hg hat HP HB HZ))
                            go_roundw
                            case rel => exact ⟨_, 0, j + 1, by go_num, by go_num, by omega, hy', HX2, HZ1, HP1, HB1⟩
                            case measure => simp [intOf]; omega
                        · obtain rfl : y = 0 := by omega
                          obtain rfl : z = 0 := by omega
                          have hq0 : q = 0 := by have := HZQ.out; omega
                          have HX3 : Aside0 (ds ++ decs q = decs N) := ⟨by rw [← HX.out, hq0, remd_end0]⟩
                          clear HX
                          go_wp2
                          go_roundg q
                          case rel => exact ⟨zs, ds, q, by rw [hzl], by omega, ⟨by omega⟩, HZW, HZV, HX3, by rw [hzl]; exact HZ, HP, HB⟩
                          case measure => have := HKM.out; omega
                      · obtain rfl : j = 9 := by omega
                        obtain rfl : y = 0 := by simpa using hy
                        have HX3 : Aside0 (ds ++ decs q = decs N) := ⟨by rw [← HX.out, remd_end9 0 q (by omega)]⟩
                        clear HX
                        go_wp2
                        go_roundg (q + z)
                        case rel => exact ⟨zs, ds, q, by rw [hzl], by omega, ⟨by omega⟩, HZW, HZV, HX3, by rw [hzl]; exact HZ, HP, HB⟩
                        case measure => have := HKM.out; have := HZQ.out; omega
        · have hx0 : xs.length = 0 := by omega
          have hx1 : xs = [] := List.length_eq_zero_iff.1 hx0
          have hM0 : M = 0 := by
            have h := HV.out
            rw [hx1] at h
            simp [v32] at h
            omega
          have HXN : Aside0 (bs = decs N) := ⟨by rw [← HX.out, hM0, decs_zero, List.append_nil]⟩
          clear HX HV HK HD
          subst hx1
          clear HO
          have h0 := (HB.out.cell (World.block_lt_of_cell? w _ hneg)).trans hneg
          have h1 := (HB.out.cell (World.block_lt_of_cell? w _ habs)).trans habs
          by_cases hN0 : N = 0
          · subst hN0
            have hb0 : bs = [] := by rw [HXN.out, decs_zero]
            subst hb0
            obtain ⟨A6, c6, e6, hc6, hr6⟩ := Kd.R_reads HP.out
            subst e6
            go_wp2
            go_ret
            exact ⟨rfl, HB.out⟩
          · have hwp : 0 < ws.length := by
              rcases Nat.eq_zero_or_pos ws.length with h | h
              · have h2 := List.length_eq_zero_iff.1 h
                have h3 := HN.out
                rw [h2] at h3
                simp [v64] at h3
                omega
              · exact h
            have HSIGN := Lib.hid (sign_any g neg ws A c wr h0 h1 hwp)
            have hbp : 0 < bs.length := by rw [HXN.out, decs_pos (by omega)]; simp
            have hbl : bs.length < 1000000000 := by rw [HXN.out]; exact hdl
            clear h0 h1
            obtain ⟨es, hes⟩ : ∃ es, bs ++ (if neg then [45] else []) = es := ⟨_, rfl⟩
            have HES := Aside0.mk hes
            have hxp : 0 < es.length := by rw [← hes, List.length_append]; omega
            have hb9 : es.length ≤ 1000000001 := by rw [← hes, List.length_append]; cases neg <;> simp <;> omega
            cases neg with
            | true =>
              rw [if_pos rfl] at hes
              have HEQ := Aside0.mk hes
              clear hes
              obtain ⟨A5, c5, e5, hc5, hr5⟩ := Kd.R_reads HP.out
              subst e5
              have hbb : decide ((bs.length : Int) = 0) = false := decide_eq_false (by omega)
              clear hr5
              go_wp2_with (first | (go_at_call 35; go_must (refine HSIGN.out.mono ?_); rintro e w' ⟨rfl, rfl⟩) | ((with_reducible refine gate_builtin (b := .append) (xs := #[.tmp 96, .tmp 97]) rfl ?_); at_builtin; go_must (refine Kd.R_append (Kd.int .u8) (w0 := w) w.heap.size rfl (.tmp 96) (.tmp 97) 70 5 (.int .u8 0) 1 rfl Try.underlying70 info5 rfl (by decide) (by omega) (.slice A5 bs.length c5) bs (45) [.int .u8 (45)] (fun _ => True) (fun _ => False) rfl rfl rfl (fun _ hk => hk.elim) (fun _ _ => trivial) HP.out HB.out HB.out.size (by omega) ?_); intro v1 w1 ho hb hg hat; rw [HEQ.out] at ho; go_must (obtain ⟨g6, c6, e6, hgb, hgl, _⟩ := Kd.R_form ho hxp); subst e6; have HP1 := Aside0.mk ho; have HB1 := Aside0.mk hb; clear ho hb hg hat HP HB hgl))
              go_loopw [10, 11] (fun v7 v8 w' => ∃ (ys : List Int) (i j : Nat), v7 = .int .i64 i ∧ v8 = .int .i64 j ∧ Aside0 (i + j + 1 = es.length) ∧ i ≤ j + 1 ∧ i ≤ es.length ∧ j < es.length ∧ Aside0 (Turned es ys i) ∧ Aside0 (Kd.R (Kd.int .u8) 5 w' w.heap.size (fun _ => True) (.slice (some ⟨g6, 0, none⟩) es.length c6) ys) ∧ Aside0 (Below w.heap.size w w')) (fun _ v8 _ => (intOf v8).toNat)
              case atStart => exact ⟨es, 0, es.length - 1, rfl, by go_num, ⟨by omega⟩, by omega, by omega, by omega, ⟨Turned.start es⟩, HP1, HB1⟩
              case round =>
                clear HP1 HB1
                obtain ⟨ys, i, j, rfl, rfl, HS, hij, hil, hjl, HT, HO, HB⟩ := hrel
                have hyl := HT.out.len
                by_cases hlt : i < j
                · obtain ⟨hx1, hf1⟩ := Kd.R_celln 0 HO.out (i : Int) (by omega) (by omega)
                  obtain ⟨hx2, hf2⟩ := Kd.R_celln 0 HO.out (j : Int) (by omega) (by omega)
                  have HP1 := Kd.R_putn HO.out (i : Int) (ys.getD j 0)
                  have HP2 := Kd.R_putn HP1 (j : Int) (ys.getD i 0)
                  have HT2 := HT.out.step (by have := HS.out; omega)
                  rw [show es.length - 1 - i = j by have := HS.out; omega] at HT2
                  unfold rdOf at hx1 hx2
                  simp only [Int.toNat_natCast] at hx1 hx2 hf1 hf2 HP2
                  obtain ⟨x1, hx1'⟩ : ∃ x1, ys.getD i 0 = x1 := ⟨_, rfl⟩
                  obtain ⟨x2, hx2'⟩ : ∃ x2, ys.getD j 0 = x2 := ⟨_, rfl⟩
                  rw [hx1'] at hx1 HP2 HT2
                  rw [hx2'] at hx2 HP2 HT2
                  have HP3 := Aside0.mk HP2
                  have HT3 := Aside0.mk HT2
                  clear HP1 HP2 HT2 hx1' hx2' HT HO hyl
                  go_wp2
                  go_region
                  go_wp2
                  go_roundw
                  case rel => exact ⟨_, i + 1, j - 1, by go_num, by go_num, ⟨by have := HS.out; omega⟩, by omega, by omega, by omega, HT3, ⟨Kd.R_drew HP3.out⟩, ⟨below_drew (below_set (below_set HB.out hgb) hgb)⟩⟩
                  case measure => simp [intOf]; omega
                · have hd : ys = es.reverse := HT.out.done (by have := HS.out; omega)
                  have hcv := own_string (P := Try.prog) Try.underlying70 Try.underlying5 Try.underlying9 (Kd.own_of_R HO.out)
                  have ht : strOfNums ys = textZ true N := by
                    unfold textZ
                    rw [if_neg (by omega), hd, ← HES.out, HXN.out]
                    simp
                  rw [ht] at hcv
                  clear hd ht
                  go_wp2
                  go_ret
                  exact ⟨rfl, HB.out⟩
            | false =>
              rw [if_neg (by decide), List.append_nil] at hes
              subst hes
              clear hbp hbl
              have hbb : decide ((bs.length : Int) = 0) = false := decide_eq_false (by omega)
              obtain ⟨g6, c6, e6, hgb, hgl, _⟩ := Kd.R_form HP.out hxp
              subst e6
              clear hgl
              have HP1 := Aside0.mk HP.out
              have HB1 := Aside0.mk HB.out
              clear HP HB
              go_wp2_with (go_at_call 35; go_must (refine HSIGN.out.mono ?_); rintro e w' ⟨rfl, rfl⟩)
              go_loopw [10, 11] (fun v7 v8 w' => ∃ (ys : List Int) (i j : Nat), v7 = .int .i64 i ∧ v8 = .int .i64 j ∧ Aside0 (i + j + 1 = bs.length) ∧ i ≤ j + 1 ∧ i ≤ bs.length ∧ j < bs.length ∧ Aside0 (Turned bs ys i) ∧ Aside0 (Kd.R (Kd.int .u8) 5 w' w.heap.size (fun _ => True) (.slice (some ⟨g6, 0, none⟩) bs.length c6) ys) ∧ Aside0 (Below w.heap.size w w')) (fun _ v8 _ => (intOf v8).toNat)
              case atStart => exact ⟨bs, 0, bs.length - 1, rfl, by go_num, ⟨by omega⟩, by omega, by omega, by omega, ⟨Turned.start bs⟩, HP1, HB1⟩
              case round =>
                clear HP1 HB1
                obtain ⟨ys, i, j, rfl, rfl, HS, hij, hil, hjl, HT, HO, HB⟩ := hrel
                have hyl := HT.out.len
                by_cases hlt : i < j
                · obtain ⟨hx1, hf1⟩ := Kd.R_celln 0 HO.out (i : Int) (by omega) (by omega)
                  obtain ⟨hx2, hf2⟩ := Kd.R_celln 0 HO.out (j : Int) (by omega) (by omega)
                  have HP1 := Kd.R_putn HO.out (i : Int) (ys.getD j 0)
                  have HP2 := Kd.R_putn HP1 (j : Int) (ys.getD i 0)
                  have HT2 := HT.out.step (by have := HS.out; omega)
                  rw [show bs.length - 1 - i = j by have := HS.out; omega] at HT2
                  unfold rdOf at hx1 hx2
                  simp only [Int.toNat_natCast] at hx1 hx2 hf1 hf2 HP2
                  obtain ⟨x1, hx1'⟩ : ∃ x1, ys.getD i 0 = x1 := ⟨_, rfl⟩
                  obtain ⟨x2, hx2'⟩ : ∃ x2, ys.getD j 0 = x2 := ⟨_, rfl⟩
                  rw [hx1'] at hx1 HP2 HT2
                  rw [hx2'] at hx2 HP2 HT2
                  have HP3 := Aside0.mk HP2
                  have HT3 := Aside0.mk HT2
                  clear HP1 HP2 HT2 hx1' hx2' HT HO hyl
                  go_wp2
                  go_region
                  go_wp2
                  go_roundw
                  case rel => exact ⟨_, i + 1, j - 1, by go_num, by go_num, ⟨by have := HS.out; omega⟩, by omega, by omega, by omega, HT3, ⟨Kd.R_drew HP3.out⟩, ⟨below_drew (below_set (below_set HB.out hgb) hgb)⟩⟩
                  case measure => simp [intOf]; omega
                · have hd : ys = bs.reverse := HT.out.done (by have := HS.out; omega)
                  have hcv := own_string (P := Try.prog) Try.underlying70 Try.underlying5 Try.underlying9 (Kd.own_of_R HO.out)
                  have ht : strOfNums ys = textZ false N := by
                    unfold textZ
                    rw [if_neg (by omega), hd, HXN.out]
                    simp
                  rw [ht] at hcv
                  clear hd ht
                  go_wp2
                  go_ret
                  exact ⟨rfl, HB.out⟩
end Go.Proofs.Ythkmgjkajllemaa.Big
