/- Int.SetString of a text with a byte in it that stands in no number is refused. -/
import Derived.Test.YthkmgjkajllemaaDoorSc
namespace Go.Proofs.YthkmgjkajllemaaDoor.Mw
open Go.RowKit Go.Proofs.YthkmgjkajllemaaDoorW.PrintWords Go.Proofs.YthkmgjkajllemaaDoorW.PrintLast Go.Proofs.YthkmgjkajllemaaDoorW.PrintMore Go.Proofs.YthkmgjkajllemaaDoor.Tx Go.Proofs.YthkmgjkajllemaaDoor.Rd
set_option linter.unusedVariables false
set_option linter.unusedSimpArgs false

theorem _root_.Go.Proofs.YthkmgjkajllemaaDoor.Rd.At.far {w : World} {g : Nat} {s : ByteArray} {p : Nat} (h : At w g s p) (a : Addr) (u : Value) (ha : a.block ≠ g) : At (w.setCell a u) g s p := by
  obtain ⟨c0, c1, ⟨x, c2⟩, f1, f2, lt⟩ := h
  have hn : ∀ i, (⟨g, i, none⟩ : Addr) ≠ a := fun i e => ha (by rw [← e])
  exact ⟨cell_set_other c0 (hn 0), cell_set_other c1 (hn 1), ⟨x, cell_set_other c2 (hn 2)⟩, by simpa using f1, by simpa using f2, by simpa using lt⟩
theorem run_neq_nil_left {P : Program} (w : World) {ti : TypeId} {ms : Array (String × TypeId)} (tp : TypeId) (v : Value) (hi : P.underlying ti = some (.interface ms)) :
    (binOp .neq ti .nilIface (.iface tp v)).run P w = .ok (.bool true) w := by
  have h : ∀ d : Nat, (Op.equalIn (d + 1) ti .nilIface (.iface tp v)).run P w = .ok false w := fun d => by simp [Op.equalIn, run_underlying hi]
  simp only [binOp]
  simp [Op.equal, Op.maxDepth, h 9999]
/-- A new big integer. -/
structure Fresh (w : World) (g : Nat) : Prop where
  c0 : w.cell? ⟨g, 0, none⟩ = some (.bool false)
  c1 : w.cell? ⟨g, 1, none⟩ = some (.slice none 0 0)
  f0 : w.frozen? ⟨g, 0, none⟩ = false
  f1 : w.frozen? ⟨g, 1, none⟩ = false
  lt : g < w.heap.size
theorem Fresh.keep {w w1 : World} {g B : Nat} (h : Fresh w g) (hb : Below B w w1) (hg : g < B) : Fresh w1 g := by
  obtain ⟨c0, c1, f0, f1, lt⟩ := h
  exact ⟨(hb.cell (p := ⟨g, 0, none⟩) hg).trans c0, (hb.cell (p := ⟨g, 1, none⟩) hg).trans c1, (hb.frozen (p := ⟨g, 0, none⟩) hg).trans f0, (hb.frozen (p := ⟨g, 1, none⟩) hg).trans f1, Nat.lt_of_lt_of_le lt hb.size⟩

set_option maxHeartbeats 2000000 in
set_option maxRecDepth 100000 in
theorem intScan_any (g gz b k : Nat) (s : ByteArray) (te tn : TypeId) (pe pn : Value) (w : World) (h : At w g s 0) (hz : Fresh w gz) (hgz : gz < g) (hk : k < s.size) (hodd : OddB (bt s (k : Int))) (hs : s.size < 400) (hE : Errs w te pe tn pn) (hb8 : 8 < b) (hb : b ≤ gz) :
    Calls Tryd.prog 120 #[.pointer (some ⟨gz, 0, none⟩), .iface 146 (.pointer (some ⟨g, 0, none⟩)), .int .i64 10] w fun e w' => ∃ r1 r2 err q, e = .returned (.tuple #[r1, r2, err]) ∧ (err = .nilIface ∨ err = .iface tn pn) ∧ At w' g s q ∧ q ≤ k ∧ Below b w w' := by
  have HS := Lib.hid (scanSign_any g (gz + 1) s w h (by omega) (by omega) (by omega) (by have := h.lt; omega))
  have HN := Lib.hid (fun p0 W h1 h2 h3 h4 => scan_any g (gz + 1) k p0 s te tn pe pn W h1 h2 hk hodd.1 hs h3 (by omega) (by omega) h4)
  have HO := Aside0.mk hodd
  have HE := Aside0.mk hE
  have HZ := Aside0.mk hz
  clear h hodd hE hz
  go_enter Tryd.func120, Tryd.ntmps120
  go_wp2_with fail
  refine HS.out.mono ?_
  rintro e w2 ⟨neg, p, rfl, h2, hp, hb2⟩
  have hpk : p ≤ k := by
    rcases hp with h | ⟨rfl, h⟩
    · omega
    · rcases Nat.eq_zero_or_pos k with h0 | h0
      · subst h0
        obtain ⟨-, h1, h2, -⟩ := HO.out
        rcases h with h | h
        · exact absurd h h1
        · exact absurd h h2
      · exact h0
  have H2 := Aside0.mk h2
  have HB2 := Aside0.mk hb2
  have HZ2 := HZ.out.keep hb2 (by omega)
  have HZ2' := Aside0.mk HZ2
  obtain ⟨c0, c1, f0, f1, lt⟩ := HZ2
  clear hp h2 hb2
  go_wp2_with fail
  have HE2 := Aside0.mk (HE.out.below HB2.out (by omega))
  refine (HN.out p w2 H2.out hpk HE2.out (by omega)).mono ?_
  rintro e w3 ⟨v', n', c, err, q, rfl, herr, hv, h3, hq, hb3⟩
  have H3 := Aside0.mk h3
  have HB3 := Aside0.mk (HB2.out.trans hb3)
  obtain ⟨c0', c1', f0', f1', lt'⟩ := HZ2'.out.keep hb3 (by omega)
  obtain ⟨A, cp, rfl⟩ : ∃ A cp, v' = .slice A n' cp := by
    rcases hv with ⟨rfl, rfl⟩ | ⟨g', cap, rfl, -⟩
    · exact ⟨_, _, rfl⟩
    · exact ⟨_, _, rfl⟩
  clear hv h3 hb3 c0 c1 f0 f1 lt
  rcases herr with rfl | rfl
  · go_wp2_with fail
    all_goals (go_ret3; exact ⟨_, _, _, q, rfl, .inl rfl, (H3.out.far ⟨gz, 1, none⟩ _ (by show gz ≠ g; omega)).far ⟨gz, 0, none⟩ _ (by show gz ≠ g; omega), hq, ((HB3.out.mono (by omega)).setCell (p := ⟨gz, 1, none⟩) hb _).setCell (p := ⟨gz, 0, none⟩) hb _⟩)
  · go_wp2_with fail
    go_ret3
    exact ⟨_, _, _, q, rfl, .inr rfl, H3.out.far ⟨gz, 1, none⟩ _ (by show gz ≠ g; omega), hq, (HB3.out.mono (by omega)).setCell (p := ⟨gz, 1, none⟩) hb _⟩

set_option maxHeartbeats 2000000 in
set_option maxRecDepth 100000 in
theorem fromScanner_any (g gz b k : Nat) (s : ByteArray) (te tn : TypeId) (pe pn : Value) (w : World) (h : At w g s 0) (hz : Fresh w gz) (hgz : gz < g) (hk : k < s.size) (hodd : OddB (bt s (k : Int))) (hs : s.size < 400) (hE : Errs w te pe tn pn) (hb8 : 8 < b) (hb : b ≤ gz) :
    Calls Tryd.prog 110 #[.pointer (some ⟨gz, 0, none⟩), .iface 146 (.pointer (some ⟨g, 0, none⟩)), .int .i64 10] w fun e w' => ∃ r, e = .returned (.tuple #[r, .bool false]) ∧ Below b w w' := by
  have HS := Lib.hid (intScan_any g gz b k s te tn pe pn w h hz hgz hk hodd hs hE hb8 hb)
  have HR := Lib.hid (fun q W (hq : q < s.size) hW => readByte_in g s q b W hW hq (by omega) (by omega))
  have HE := Aside0.mk hE
  have hnl : ∀ W, (binOp .neq 76 .nilIface (.iface te pe)).run Tryd.prog W = .ok (.bool true) W := fun W => run_neq_nil_left W te pe Tryd.underlying76
  have m1 := meth_read
  clear h hodd hE hz
  go_enter Tryd.func110, Tryd.ntmps110
  go_wp2_with fail
  refine HS.out.mono ?_
  rintro e w2 ⟨r1, r2, err, q, rfl, herr, h2, hq, hb2⟩
  have H2 := Aside0.mk h2
  have HB2 := Aside0.mk hb2
  clear h2 hb2
  rcases herr with rfl | rfl
  · go_wp2_with fail
    refine (HR.out q w2 (by omega) H2.out).mono ?_
    rintro e w3 ⟨rfl, -, hb3, -⟩
    have HB3 := Aside0.mk (HB2.out.trans hb3)
    obtain ⟨c4, -⟩ := HE.out.below HB3.out hb8
    clear hb3
    go_wp2_with fail
    go_ret2
    exact ⟨_, rfl, HB3.out⟩
  · go_wp2_with fail
    go_ret2
    exact ⟨_, rfl, HB2.out⟩

set_option maxHeartbeats 1000000 in
set_option maxRecDepth 100000 in
theorem setString_odd (gz b k : Nat) (s : ByteArray) (te tn : TypeId) (pe pn : Value) (w : World) (hz : Fresh w gz) (hk : k < s.size) (hodd : OddB (bt s (k : Int))) (hs : s.size < 400) (hE : Errs w te pe tn pn) (hb8 : 8 < b) (hb : b ≤ gz) :
    Calls Tryd.prog 101 #[.pointer (some ⟨gz, 0, none⟩), .string s, .int .i64 10] w fun e w' => ∃ r, e = .returned (.tuple #[r, .bool false]) ∧ Below b w w' := by
  have HN := Lib.hid (fun W => newReader_any s W)
  have HF := Lib.hid (fun g W h1 h2 h3 h4 => fromScanner_any g gz b k s te tn pe pn W h1 h2 h3 hk hodd hs h4 hb8 hb)
  have HE := Aside0.mk hE
  have HZ := Aside0.mk hz
  clear hodd hE hz
  go_enter Tryd.func101, Tryd.ntmps101
  go_wp2_with fail
  refine (HN.out _).mono ?_
  rintro e w2 ⟨g, rfl, hg, h2, hb2⟩
  have H2 := Aside0.mk h2
  have HB2 := Aside0.mk hb2
  clear h2 hb2
  go_wp2_with fail
  refine (HF.out g w2 H2.out (HZ.out.keep HB2.out HZ.out.lt) (by have := HZ.out.lt; omega) (HE.out.below HB2.out (by have := HZ.out.lt; omega))).mono ?_
  rintro e w3 ⟨r, rfl, hb3⟩
  have HB3 := Aside0.mk ((HB2.out.mono (by have := HZ.out.lt; omega)).trans hb3)
  clear hb3
  go_wp2_with fail
  go_ret2
  exact ⟨_, rfl, HB3.out⟩
end Go.Proofs.YthkmgjkajllemaaDoor.Mw
