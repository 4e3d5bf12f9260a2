/- strconv.ParseInt(s, 10, 32): an error, or s has only digits and signs. -/
import Derived.Test.YthkmgjkajllemaaDoorShelf
import Derived.Test.YthkmgjkajllemaaDoorTx
import Derived.Lib.ParseIntBTie
import Derived.Lib.SmallJoins
namespace Go.Proofs.YthkmgjkajllemaaDoor.Pi
open Go.RowKit Go.Proofs.YthkmgjkajllemaaDoorW.PrintWords Go.Proofs.YthkmgjkajllemaaDoorW.PrintLast Go.Proofs.YthkmgjkajllemaaDoorW.PrintMore Go.Proofs.YthkmgjkajllemaaDoor.Tx
set_option linter.unusedVariables false
set_option linter.unusedSimpArgs false

theorem uintM_ok (M : Nat) : ∀ (l : List UInt8) (acc u : Nat), Lib.parseUintM M acc l = .ok u → ∀ c ∈ l, 48 ≤ c.toNat ∧ c.toNat ≤ 57
  | [], _, _, _, c, hc => by simp at hc
  | a :: r, acc, u, h, c, hc => by
    rw [Lib.parseUintM] at h
    split at h
    · rename_i hd
      split at h
      · simp at h
      · split at h
        · simp at h
        · rcases List.mem_cons.1 hc with rfl | hc
          · exact hd
          · exact uintM_ok M r _ u h c hc
    · simp at h
theorem uintB_ok (B : Nat) (l : List UInt8) (u : Nat) (h : Lib.parseUintB B l = .ok u) : ∀ c ∈ l, 48 ≤ c.toNat ∧ c.toNat ≤ 57 := by
  unfold Lib.parseUintB at h
  split at h
  · simp at h
  · exact uintM_ok _ _ _ _ h
theorem intB_ok (B : Nat) (l : List UInt8) (v : Int) (h : Lib.parseIntB B l = .ok v) : ∀ c ∈ l, (48 ≤ c.toNat ∧ c.toNat ≤ 57) ∨ c.toNat = 43 ∨ c.toNat = 45 := by
  unfold Lib.parseIntB at h
  split at h
  · simp at h
  · rename_i a r
    simp only at h
    split at h
    · simp at h
    · simp at h
    · rename_i u hu
      have := uintB_ok _ _ _ hu
      intro c hc
      split at this
      · rename_i hs
        rcases List.mem_cons.1 hc with rfl | hc
        · exact .inr hs
        · exact .inl (this c hc)
      · exact .inl (this c hc)

/-- The library's errors that ParseInt meets. -/
structure Errs5 (w : World) : Prop where
  syn : ∃ t p, w.cell? ⟨5, 0, none⟩ = some (.iface t p)
  rng : ∃ t p, w.cell? ⟨6, 0, none⟩ = some (.iface t p)
theorem parseInt_any (s : ByteArray) (hs : s.size ≤ 400) (w : World) (h : Errs5 w) :
    Calls Tryd.prog 98 #[.string s, .int .i64 10, .int .i64 32] w fun e w' => ∃ (v : Int) (err : Value), e = .returned (.tuple #[.int .i64 v, err]) ∧
      ((err = .nilIface ∧ (∀ c ∈ s.data.toList, (48 ≤ c.toNat ∧ c.toNat ≤ 57) ∨ c.toNat = 43 ∨ c.toNat = 45) ∧ -2147483648 ≤ v ∧ v < 2147483648) ∨ ∃ p, err = .iface 153 (.pointer (some p))) ∧ Below w.heap.size w w' := by
  obtain ⟨⟨ts, ps, hsyn⟩, ⟨tr, pr, hrng⟩⟩ := h
  rcases h : Lib.parseIntB 32 s.data.toList with v | _ | _
  · refine (Go.Proofs.Any.strconv_ParseInt_10_at32_ok Tryd.laysPI s (by omega) v h w).mono ?_
    rintro e w' ⟨rfl, hw⟩
    have hb := Lib.parseIntB_bounds h
    refine ⟨v, _, rfl, .inl ⟨rfl, intB_ok 32 _ v h, ?_, ?_⟩, ?_⟩
    · have := hb.1
      simpa using this
    · have := hb.2
      simpa using this
    · rcases hw with rfl | ⟨t, rfl⟩
      · exact Below.refl _ _
      · exact Go.Joins.below_bytesWorld _ _ _ _ (Nat.le_refl _)
  · refine (Go.Proofs.Any.strconv_ParseInt_10_at32_syntax Tryd.laysPI s (by omega) h (.iface ts ps) w hsyn (.inr ⟨_, _, rfl⟩)).mono ?_
    rintro e w' ⟨N, rfl, -, -, hb⟩
    exact ⟨0, _, rfl, .inr ⟨_, rfl⟩, hb⟩
  · refine (Go.Proofs.Any.strconv_ParseInt_10_at32_range Tryd.laysPI s (by omega) h (.iface tr pr) w hrng (.inr ⟨_, _, rfl⟩)).mono ?_
    rintro e w' ⟨N, rfl, -, -, hb⟩
    exact ⟨_, _, rfl, .inr ⟨_, rfl⟩, hb⟩
end Go.Proofs.YthkmgjkajllemaaDoor.Pi
