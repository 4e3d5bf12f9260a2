/- FnDecRefused: for every text the law answers true; the row lists the variables of the package and of the library that the call reads, and the card ties them to the texts of the program and of the library. -/
import Derived.Test.YthkmgjkajllemaaDoorCards
import Derived.Test.YthkmgjkajllemaaDoorTie
import Derived.Test.YthkmgjkajllemaaDoorRl
import Derived.ProofKit
import Derived.LaidMore
import Derived.OpenShut
import Derived.OpenVars
import Derived.ChangeOld
import Derived.SevenTiedAt
import Derived.Lib.LaidTab
import Derived.Stop.Joined
import Derived.Stop.LaidErr
import Derived.ChangeMaps5
namespace Go.Proofs.YthkmgjkajllemaaDoor.fnDecRefused
open Go.ChangeShapes Go.WideShapes Go.ChangeAt Go.RowKit Go.ChangeMaps
set_option linter.unusedVariables false

open Nf Go.Proofs.YthkmgjkajllemaaDoor.Mw Go.Proofs.YthkmgjkajllemaaDoor.Pi

theorem own : ownKnob Tryd.prog.godebug = none := by kernel_rfl
theorem laidOut : laidOutB Tryd.prog = true := by kernel_rfl

theorem star : "*errors.errorString" = "*" ++ "errors.errorString" := rfl
theorem row140 (u : TypeId) (h : Tryd.prog.typeName? 3 u = some "*errors.errorString") : u = 140 :=
  typeName_ptr_named (nm := "errors.errorString") (by rw [← star]; kernel_rfl) (by kernel_rfl) (by decide) u (by rw [← star]; exact h)
theorem cells142 : Tryd.prog.cellsOf 142 = 1 := by kernel_rfl
theorem cells9 : Tryd.prog.cellsOf 9 = 1 := by kernel_rfl
theorem gEof : Tryd.prog.globalNamed "io.EOF" = some 4 := by kernel_rfl
theorem gEofType : (Tryd.prog.globals[4]?).map (·.type) = some 76 := by kernel_rfl
theorem gSyn : Tryd.prog.globalNamed "strconv.ErrSyntax" = some 5 := by kernel_rfl
theorem gSynType : (Tryd.prog.globals[5]?).map (·.type) = some 76 := by kernel_rfl
theorem gRng : Tryd.prog.globalNamed "strconv.ErrRange" = some 6 := by kernel_rfl
theorem gRngType : (Tryd.prog.globals[6]?).map (·.type) = some 76 := by kernel_rfl
theorem gDig : Tryd.prog.globalNamed "given.example/pub-alexandrine/pub/bigall.errNoDigits" = some 8 := by kernel_rfl
theorem gDigType : (Tryd.prog.globals[8]?).map (·.type) = some 76 := by kernel_rfl

/-- What the row's list gives the walk. -/
theorem errs_of {W : World} (h : laidMet Tryd.prog Rows.fnDecRefusedRow.laid W) : (∃ te pe tn pn, Errs W te pe tn pn) ∧ Errs5 W ∧ 8 < W.heap.size := by
  have h3 := h.tail.tail.tail
  obtain ⟨a0, s0, hv0, _, _, _⟩ := laid_sentinel h3 gRng gRngType Tryd.underlying76 row140 Tryd.underlying140 Tryd.underlying142 rfl rfl Tryd.underlying9 cells142 cells9
  obtain ⟨a1, s1, hv1, _, _, _⟩ := laid_sentinel h3.tail gSyn gSynType Tryd.underlying76 row140 Tryd.underlying140 Tryd.underlying142 rfl rfl Tryd.underlying9 cells142 cells9
  obtain ⟨a2, s2, hv2, _, _, _⟩ := laid_sentinel h3.tail.tail gEof gEofType Tryd.underlying76 row140 Tryd.underlying140 Tryd.underlying142 rfl rfl Tryd.underlying9 cells142 cells9
  obtain ⟨a3, s3, hv3, _, _, _⟩ := laid_sentinel h3.tail.tail.tail gDig gDigType Tryd.underlying76 row140 Tryd.underlying140 Tryd.underlying142 rfl rfl Tryd.underlying9 cells142 cells9
  have c6 := World.var?_cell gRng hv0 0
  have c5 := World.var?_cell gSyn hv1 0
  have c4 := World.var?_cell gEof hv2 0
  have c8 := World.var?_cell gDig hv3 0
  exact ⟨⟨_, _, _, _, c4, c8⟩, ⟨⟨_, _, c5⟩, ⟨_, _, c6⟩⟩, World.block_lt_of_cell? W _ c8⟩

/-- What lists of three variables read as. -/
theorem three_vars {H : Type} {enc : TypeId × Value → H} {P : Program} {W : World} {sp : Nat → Bool} {gs : List (DataW H)} {q : List MemPlace} {a b c : String} (hV : DataW.TrodVars enc P W sp [a, b, c] gs q) : ∃ g1 g2 g3, gs = [g1, g2, g3] := by
  obtain _ | ⟨g1, gs⟩ := gs
  · exact hV.elim
  · obtain ⟨_, _, _, _, _, _, _, _, _, _, hs, _⟩ := hV
    obtain _ | ⟨g2, gs⟩ := gs
    · exact hs.elim
    · obtain ⟨_, _, _, _, _, _, _, _, _, _, hs, _⟩ := hs
      obtain _ | ⟨g3, gs⟩ := gs
      · exact hs.elim
      · obtain ⟨_, _, _, _, _, _, _, _, _, _, hs, _⟩ := hs
        obtain _ | ⟨g4, gs⟩ := gs
        · exact ⟨g1, g2, g3, rfl⟩
        · exact hs.elim

/-- The door's own heap meets the condition. -/
theorem door_met (os : Os) (args : Array Value) : laidMetH Tryd.prog Rows.fnDecRefusedRow.laid ((World.doorLaid Tryd.prog 166 os).forCall (fun _ _ => 0) ⟨#[], args, []⟩).memory :=
  laidMetH_of_parts3 (fuel := 8) (laidMet_of_run' 8 (by kernel_rfl) (by kernel_rfl)) (by kernel_rfl) (by kernel_rfl)

set_option maxRecDepth 100000 in
theorem lifted (os : Os) (started : os.Started) (H : Type) (enc : TypeId × Value → H) :
    ReturnsInHanded {} Tryd.checked os 9 .any (fun w args => (Rows.fnDecRefusedSpec.pre enc Tryd.prog Tryd.f9 [] false w args ∧ laidMetH Tryd.prog Rows.fnDecRefusedRow.laid w) ∧ sizedMet enc Tryd.prog Tryd.f9 (OpenSpec.ofChange Rows.fnDecRefusedSpec) false w args)
      (Rows.fnDecRefusedSpec.post enc Tryd.prog Tryd.f9 false true false false) := by
  refine returnsInHanded_of_change_and (C := Tryd.checked) (X := fun w _ => laidMetH Tryd.prog Rows.fnDecRefusedRow.laid w) (fun _ _ _ hh h => h.of_heap hh) own started (by kernel_rfl) Tryd.func9
    (ChangeSpec.witness_shaped (enc := enc) (C := Tryd.checked) (os := os) (X := fun w _ => laidMetH Tryd.prog Rows.fnDecRefusedRow.laid w) false (World.doorLaid Tryd.prog 166 os) #[.string ⟨#[]⟩] 8 rfl (World.shaped_of_RefB (by kernel_rfl) (by kernel_rfl)) (by kernel_rfl) (by kernel_rfl) (by kernel_rfl) (door_met os _)) ?_
  intro W base args ds gs before hval0 hW _ _ hL _
  have hval : ∀ (j : Nat) t v, Tryd.f9.params[j]? = some t → args[j]? = some v → Value.okWide Tryd.prog W .any base t v := hval0
  have hW' := hW
  obtain ⟨p, q, hA0, hV, rfl, hfz, hnd⟩ := hW
  have hA : DataW.TrodAll enc Tryd.prog W 0 (fun _ => true) true Tryd.f9.params.toList args.toList ds p := hA0
  rw [Tryd.params9] at hA hval
  obtain ⟨v0, vs0, d0, ds0, p0, q0, hargs, rfl, rfl, h0, r0⟩ := trodAll_cons hA
  obtain ⟨rfl, rfl, rfl⟩ := trodAll_nil r0
  obtain rfl : args = #[v0] := by cases args; simp_all
  obtain ⟨t, rfl, rfl, rfl, ht⟩ := open_string Tryd.underlying9 (hval 0 9 v0 rfl rfl) h0
  obtain ⟨⟨te, pe, tn, pn, hE⟩, h5, h8⟩ := errs_of (W := W) (by
    have h := hL
    rw [MakeChecks.laidMetH_plain _ _ _ (by kernel_rfl)] at h
    exact h)
  obtain ⟨g1, g2, g3, hgs⟩ := three_vars hV
  subst hgs
  clear hA0 hval0
  refine (law_ok t te tn pe pn W hE h5 h8).mono fun e W' ⟨he, bel⟩ => ?_
  subst he
  exact ⟨_, rfl, _, _, _, [], _, _, hW', trodAll_mk1 (shut_bool Tryd.underlying4 _), trodAll_cons_mk (shut_string Tryd.underlying9 ht) trodAll_mk0, Below.trodVars laidOut bel (by kernel_rfl) hV, bel.frame _, fun h => by cases h⟩

theorem said : Rows.FnDecRefusedSaid :=
  OpenClaim.holds_of_wide 9 Tryd.f9 rfl rfl rfl rfl rfl rfl rfl ⟨rfl, rfl, rfl, rfl, rfl⟩ rfl rfl rfl rfl rfl (by kernel_rfl) Tryd.func9 (by kernel_rfl)
    (of_decide_eq_true (by kernel_rfl)) (by unfold Func.isWrapper; first | (rw [if_pos (by decide +kernel)]; kernel_rfl) | (rw [if_neg (by decide +kernel)]; exact ⟨rfl, rfl⟩))
    (fun os started H enc _ => lifted os started H enc)

theorem plain (f : FuncId) (fn : Func) (hf : Tryd.pinned.checked.prog.funcNamed "given.example/pub-alexandrine/laws.FnDecRefused" = some f) (hfn : Tryd.pinned.checked.prog.funcs[f]? = some fn) :
    true = Tryd.pinned.checked.prog.looks [] ∧ ∀ (j : Nat) t, fn.params[j]? = some t → Tryd.pinned.checked.prog.wantsStandIn t = false := by
  obtain rfl : f = 9 := Option.some.inj ((show Tryd.prog.funcNamed "given.example/pub-alexandrine/laws.FnDecRefused" = some 9 by kernel_rfl).symm.trans hf) |>.symm
  obtain rfl : fn = Tryd.f9 := (Option.some.inj (Tryd.func9.symm.trans hfn)).symm
  refine ⟨by kernel_rfl, fun j t ht => ?_⟩
  rw [Tryd.params9] at ht
  have hm : t ∈ [9] := by simpa using Array.mem_of_getElem? ht
  have hall : ([9].all fun u => !Tryd.prog.wantsStandIn u) = true := by kernel_rfl
  exact (show Tryd.prog.wantsStandIn t = false by simpa using List.all_eq_true.1 hall t hm)

theorem card : Rows.FnDecRefusedCardSaid :=
  Claim7.holds_tied_plain_at .later [] _ _ _ _ said (fun _ h => by cases h) (by kernel_rfl) (fun _ h => by cases h) fnDecRefused_row_tie rfl ⟨rfl, rfl⟩ (by kernel_rfl) rfl plain (by kernel_rfl)
#print axioms card
end Go.Proofs.YthkmgjkajllemaaDoor.fnDecRefused
