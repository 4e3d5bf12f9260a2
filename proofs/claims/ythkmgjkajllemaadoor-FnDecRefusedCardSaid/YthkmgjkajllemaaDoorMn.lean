/- Plain facts: what is left of a text that is no number. -/
import Derived.Test.YthkmgjkajllemaaDoorTy
namespace Go.Proofs.YthkmgjkajllemaaDoor.Tx
open Go.RowKit Go.Proofs.YthkmgjkajllemaaDoorW.PrintWords Go.Proofs.YthkmgjkajllemaaDoorW.PrintLast Go.Proofs.YthkmgjkajllemaaDoorW.PrintMore
set_option linter.unusedVariables false
set_option linter.unusedSimpArgs false

theorem bt_data (s : ByteArray) (k : Nat) (h : k < s.size) : bt s (k : Int) = ((s.data.toList.getD k 0).toNat : Int) := by
  have h1 : k < s.data.toList.length := by simpa using h
  have := bt_at s (k : Int) (by simpa using h)
  rw [← this, List.getD_eq_getElem?_getD, List.getElem?_eq_getElem h1, Option.getD_some]
  simp
  rfl
theorem bt_extract (s : ByteArray) (a b k : Nat) (hb : b ≤ s.size) (hk : k < b - a) : bt (s.extract a b) (k : Int) = bt s ((a + k : Nat) : Int) := by
  rw [bt_data _ k (by rw [ByteArray.size_extract]; omega), bt_data _ (a + k) (by omega), Lib.extract_data]
  congr 2
  rw [List.getD_eq_getElem?_getD, List.getD_eq_getElem?_getD, List.getElem?_take, if_pos hk, List.getElem?_drop]
theorem bt_mem (s : ByteArray) (a k : Nat) (ha : a ≤ k) (hk : k < s.size) : ∃ c ∈ (s.extract a s.size).data.toList, (c.toNat : Int) = bt s (k : Int) := by
  have hl : k < s.data.toList.length := by simpa using hk
  refine ⟨s.data.toList[k], ?_, ?_⟩
  · rw [Lib.extract_data, List.mem_iff_getElem?]
    refine ⟨k - a, ?_⟩
    rw [List.getElem?_take, if_pos (by omega), List.getElem?_drop, show a + (k - a) = k by omega, List.getElem?_eq_getElem hl]
  · rw [bt_data s k hk, List.getD_eq_getElem?_getD, List.getElem?_eq_getElem hl, Option.getD_some]
theorem bt_left (a b : ByteArray) (k : Nat) (hk : k < a.size) : bt (a ++ b) (k : Int) = bt a (k : Int) := by
  have hl : k < a.data.toList.length := by simpa using hk
  rw [bt_data _ k (by rw [ByteArray.size_append]; omega), bt_data _ k hk]
  congr 2
  rw [ByteArray.data_append, Array.toList_append, List.getD_eq_getElem?_getD, List.getD_eq_getElem?_getD, List.getElem?_append_left hl]
theorem bt_right (a b : ByteArray) (k : Nat) (hk : k < b.size) : bt (a ++ b) ((a.size + k : Nat) : Int) = bt b (k : Int) := by
  have hl : k < b.data.toList.length := by simpa using hk
  have ha : a.data.toList.length = a.size := by simp
  rw [bt_data _ _ (by rw [ByteArray.size_append]; omega), bt_data _ k hk]
  congr 2
  rw [ByteArray.data_append, Array.toList_append, List.getD_eq_getElem?_getD, List.getD_eq_getElem?_getD, List.getElem?_append_right (by omega), ha, Nat.add_sub_cancel_left]

/-- What is left of a text ahead of its exponent: it is empty, or has a byte in it that stands in no number. -/
structure Man (v : ByteArray) (p : Int) : Prop where
  size : v.size ≤ 300
  why : v.size = 0 ∨ ∃ k : Nat, k < v.size ∧ OddB (bt v (k : Int))
  pt : p = -1 ∨ ∃ j : Nat, p = j ∧ j < v.size ∧ bt v (j : Int) = 46

theorem skip_man (v : ByteArray) (p : Int) (h : Man v p) (w : World) :
    Calls Tryd.prog 99 #[.string v, .int .i64 p] w fun e w' => ∃ n : Int, e = .returned (.tuple #[.int .i64 n, .bool false]) ∧ Below w.heap.size w w' := by
  have hs := h.size
  rcases h.why with h0 | ⟨k, hk, hodd⟩
  · have hv : v = ⟨#[]⟩ := by
      apply ByteArray.ext
      exact Array.eq_empty_of_size_eq_zero h0
    subst hv
    exact skip_empty p w
  · refine skip_odd v p k hk hodd ?_ (by omega) w
    rcases h.pt with h1 | ⟨j, h1, h2, h3⟩
    · omega
    · intro e
      rw [h1] at e
      obtain rfl : k = j := by omega
      rw [h3] at hodd
      exact absurd rfl hodd.2.2.2.1
/-- Without its point too. -/
theorem odd_joined (v : ByteArray) (p k : Nat) (hp : p < v.size) (hpb : bt v (p : Int) = 46) (hk : k < v.size) (hodd : OddB (bt v (k : Int))) :
    ∃ k' : Nat, k' < (v.extract 0 p ++ v.extract (p + 1) v.size).size ∧ OddB (bt (v.extract 0 p ++ v.extract (p + 1) v.size) (k' : Int)) := by
  have hs1 : (v.extract 0 p).size = p := by rw [ByteArray.size_extract]; omega
  have hs2 : (v.extract (p + 1) v.size).size = v.size - (p + 1) := by rw [ByteArray.size_extract]; omega
  rcases (by omega : k < p ∨ k = p ∨ p < k) with h | h | h
  · refine ⟨k, by rw [ByteArray.size_append]; omega, ?_⟩
    rw [bt_left _ _ k (by omega), bt_extract v 0 p k (by omega) (by omega), Nat.zero_add]
    exact hodd
  · subst h
    rw [hpb] at hodd
    exact absurd rfl hodd.2.2.2.1
  · refine ⟨p + (k - (p + 1)), by rw [ByteArray.size_append]; omega, ?_⟩
    have := bt_right (v.extract 0 p) (v.extract (p + 1) v.size) (k - (p + 1)) (by omega)
    rw [hs1] at this
    rw [this, bt_extract v (p + 1) v.size _ (Nat.le_refl _) (by omega), show p + 1 + (k - (p + 1)) = k by omega]
    exact hodd
end Go.Proofs.YthkmgjkajllemaaDoor.Tx
