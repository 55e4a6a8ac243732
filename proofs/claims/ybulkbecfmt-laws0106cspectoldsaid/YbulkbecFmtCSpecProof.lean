/-
  THE TOLD AND TIED CARD OF LawS0106CSpec, PROVED: the walk (YbulkbecFmtWalk3.lean) at F.told; fmt's text told; the tie as given.
-/
import Derived.Test.YbulkbecFmtWalk3
import Derived.Test.YbulkbecFmtTie
import Derived.Test.YbulkbecFmtCards
import Derived.ProofKit
import Derived.OpenShut
import Derived.LaidMore
import Derived.Stop.JoinedAt
import Derived.Stop.Texts
import Derived.Stop.JoinedTold
import Derived.Stop.FmtTextKit
import Derived.SizedLaws
import Derived.SevenTiedAt
import Derived.Deep.DeepWitnessRef
namespace Go.Proofs.YbulkbecFmt.lawS0106CSpec
open Go.ChangeShapes Go.WideShapes Go.ChangeAt Go.RowKit Go.Kit
open Go.Extern.Stop Go.Stop Go.Extern

theorem own : ownKnob Ybaf.prog.godebug = none := by kernel_rfl
theorem laidOut : laidOutB Ybaf.prog = true := by kernel_rfl
theorem stops : Ybaf.pinned.checked.prog.stops = ["fmt.errorf", "fmt.Sprintf"] := by kernel_rfl
theorem stopKnobs : Ybaf.pinned.checked.prog.stopKnobs = [] := by kernel_rfl
theorem quiet (os : Os) : Stop.quiet Ybaf.pinned.checked.prog os := by
  intro k hk
  rw [stopKnobs] at hk
  cases hk

/-! ### THE TEXT -/
theorem t_parse : (FmtText.parse [104, 111, 116, 58, 37, 100]).map FmtText.glue = some [.lit [104, 111, 116, 58], .verb {} 100] := by rfl

theorem t_text (h : Int) (hw : (Lit.int .i64 h).wf = true) : FmtText.text "fmt.Sprintf" [[104, 111, 116, 58, 37, 100], shape3, digits 8 (h % 18446744073709551616).toNat] = some ([104, 111, 116, 58] ++ Lib.itoa h) := by
  have hi := FmtText.operand_int_at (sh := shape3) (k := .i64) rfl rfl h hw
  rw [FmtText.text_sprintf_glued t_parse (FmtText.operands_cons hi FmtText.operands_nil)]
  simp [FmtText.render, FmtText.printArg_d _ _ hw]

/-- The text's size, at F.told. -/
theorem t_size (F : Interp) (h : Int) (hw : (Lit.int .i64 h).wf = true) : (FmtStop.textOf (F.told "fmt.Sprintf" [[104, 111, 116, 58, 37, 100], shape3, digits 8 (h % 18446744073709551616).toNat] 0)).size = 4 + (Lib.itoa h).length := by
  have hl := FmtText.itoa_length_le hw
  have ht := told_string F (t_text h hw) (by simp; omega)
  rw [← textOf_list] at ht
  have hs : (FmtStop.textOf (F.told "fmt.Sprintf" [[104, 111, 116, 58, 37, 100], shape3, digits 8 (h % 18446744073709551616).toNat] 0)).size = (FmtStop.textOf (F.told "fmt.Sprintf" [[104, 111, 116, 58, 37, 100], shape3, digits 8 (h % 18446744073709551616).toNat] 0)).data.toList.length := by
    rw [Array.length_toList]; rfl
  rw [hs, ht]
  simp; omega

/-! ### THE VARIABLE: four strings, in its own four cells -/
theorem cells42 : Ybaf.prog.cellsOf 42 = 4 := by kernel_rfl
theorem cells9 : Ybaf.prog.cellsOf 9 = 1 := by kernel_rfl
theorem gModes : Rows.lawS0106CSpecSpec.vars.map Ybaf.prog.globalNamed = [some 0] := by kernel_rfl
theorem tModes : (Ybaf.prog.globals[0]?).map (·.type) = some 42 := by kernel_rfl

theorem strings_of {H : Type} {enc : TypeId × Value → H} {W : World} {n : String} {cs : Array Value} {fuel : Nat} {d : DataW H} {p : List MemPlace}
    (hg : Ybaf.prog.globalNamed n = some 0) (hvar : W.var? Ybaf.prog n = some cs) (hd : DataW.trod enc Ybaf.prog W 0 (fun _ => true) true fuel 42 cs.toList = some (d, p)) :
    ∀ k, k < 4 → ∃ s, W.cell? ⟨0, k, none⟩ = some (.string s) := by
  intro k hk
  obtain ⟨xs, m, _, _, _, hn, hel⟩ := DataW.trod_array Ybaf.underlying42 hd
  have hk' := hel k hk
  rw [List.getElem?_eq_getElem (by omega), cells9] at hk'
  obtain ⟨s, e, _, _⟩ := DataW.trod_string Ybaf.underlying9 hk'
  refine ⟨s, ?_⟩
  rw [World.var?_cell hg hvar k]
  have e1 : (cs.toList.drop (k * 1)).take 1 = [.string s] := e
  have e2 : ((cs.toList.drop (k * 1)).take 1)[0]? = some (.string s) := by rw [e1]; rfl
  rw [List.getElem?_take_of_lt (by omega), List.getElem?_drop] at e2
  simpa using e2

/-! ### THE START THAT FITS: the heap that the door's own run leaves -/
theorem door_met (os : Os) (args : Array Value) : laidMetH Ybaf.prog Rows.lawS0106CSpecRow.laid ((World.doorLaid Ybaf.prog 400 os).forCall (fun _ _ => 0) ⟨#[], args, []⟩).memory :=
  laidMetH_of_parts3 (fuel := 8) (laidMet_of_run' 8 (by kernel_rfl) (by kernel_rfl)) (by kernel_rfl) (by kernel_rfl)

theorem witness_row (os : Os) {H : Type} (enc : TypeId × Value → H) :
    (OpenSpec.ofChange Rows.lawS0106CSpecSpec).preRow enc Ybaf.prog Ybaf.f5 Rows.lawS0106CSpecRow.domain false Rows.lawS0106CSpecRow.laid ((World.doorLaid Ybaf.prog 400 os).forCall (fun _ _ => 0) ⟨#[], #[.int .i64 0, .int .i64 0, .int .i64 0], []⟩).memory #[.int .i64 0, .int .i64 0, .int .i64 0] :=
  OpenSpec.preRow_of_B rfl 8 (by kernel_rfl) (by kernel_rfl) (door_met os _)

/-! ### THE ROW's STEP -/
set_option maxRecDepth 100000 in
theorem lifted (os : Os) (started : os.Started) (H : Type) (enc : TypeId × Value → H) :
    ReturnsInTold none {} Ybaf.checked os 5 .any Input.okWide ((OpenSpec.ofChange Rows.lawS0106CSpecSpec).preRow enc Ybaf.prog Ybaf.f5 Rows.lawS0106CSpecRow.domain false Rows.lawS0106CSpecRow.laid)
      (fun F => ((OpenSpec.ofChange Rows.lawS0106CSpecSpec).at F).post enc Ybaf.prog Ybaf.f5 false true false false) (aloneAtReturn Ybaf.prog) nothingAlways := by
  refine returnsInTold_of_row (C := Ybaf.checked) (s := OpenSpec.ofChange Rows.lawS0106CSpecSpec) (by kernel_rfl) own started (by kernel_rfl) Ybaf.func5
    (OpenSpec.witness_stopped_atRef (enc := enc) (C := Ybaf.checked) false (World.doorLaid Ybaf.prog 400 os) #[.int .i64 0, .int .i64 0, .int .i64 0] rfl (by kernel_rfl) (by kernel_rfl) (by kernel_rfl) (witness_row os enc)) ?_
  intro F W base args ds gs before _ hF hval0 hW _ _ _ _ _
  have hval : ∀ (j : Nat) t v, Ybaf.f5.params[j]? = some t → args[j]? = some v → Value.okWide Ybaf.prog W .any base t v := hval0
  have hW' := hW
  obtain ⟨p, q, hA0, hV0, rfl, hfz, hnd⟩ := hW
  have hA : DataW.TrodAll enc Ybaf.prog W 0 (fun _ => true) true Ybaf.f5.params.toList args.toList ds p := hA0
  have hV : DataW.TrodVars enc Ybaf.prog W (fun _ => true) [_] gs q := hV0
  rw [Ybaf.params5] at hA hval
  obtain ⟨v0, v1, v2, d0, d1, d2, p0, p1, p2, rfl, rfl, rfl, h0, h1, h2⟩ := trodAll_three hA
  obtain ⟨m, rfl, rfl, rfl, w0⟩ := open_int Ybaf.underlying3 (hval 0 3 v0 rfl rfl) h0
  obtain ⟨h, rfl, rfl, rfl, w1⟩ := open_int Ybaf.underlying3 (hval 1 3 v1 rfl rfl) h1
  obtain ⟨items, rfl, rfl, rfl, w2⟩ := open_int Ybaf.underlying3 (hval 2 3 v2 rfl rfl) h2
  obtain ⟨g, t, cs, fuel, d, pv, rfl, hg, ht, hvar, hd, rfl⟩ := trodVars_one hV
  have eg : Ybaf.prog.globalNamed _ = some 0 := (List.cons.inj gModes).1
  obtain rfl := Option.some.inj (eg.symm.trans hg)
  obtain rfl := Option.some.inj (tModes.symm.trans ht)
  clear hA0 hV0 hval0
  have hcs := strings_of hg hvar hd
  have hz : 0 < W.heap.size := by
    obtain ⟨s, hs⟩ := hcs 0 (by omega)
    exact block_lt_of_cell hs
  have hsz := t_size F h w1
  have hl := FmtText.itoa_length_le w1
  have lt : ∀ x ∈ pv, x.block < W.heap.size := DataW.trod_lt fuel _ _ _ hd
  refine (law_walk F.told m h items _ W hF rfl (by omega) (by omega) hcs hz).mono fun e W' ⟨he, bel⟩ => ?_
  subst he
  obtain ⟨fuel', hd'⟩ : DataW.Trod enc Ybaf.prog W' 0 (fun b => decide (b < W.heap.size)) true 42 (.agg cs) d pv := Below.trod laidOut (by kernel_rfl) (of_decide_eq_true (by kernel_rfl)) ⟨fuel, hd⟩ bel lt
  exact ⟨_, rfl, _, _, _, [], [], _, hW', trodAll_mk1 (shut_bool Ybaf.underlying4 _), trodAll_mk3 (shut_int Ybaf.underlying3 w0) (shut_int Ybaf.underlying3 w1) (shut_int Ybaf.underlying3 w2),
    trodVars_mk1 hg ht (var?_below bel hg hz hvar) hd', bel.frame _, fun h => by cases h⟩

/-- ████ THE STATEMENT ████ -/
theorem proved : Rows.LawS0106CSpecToldSaid :=
  Claim7.holds_of_told_tied_any_at .later 5 Ybaf.f5 "fmt.errorf" ["fmt.Sprintf"] [] _ _ _ _ _ (by kernel_rfl) rfl rfl rfl laidOut (by kernel_rfl) rfl ⟨rfl, rfl, rfl, rfl, rfl, rfl, rfl⟩ rfl rfl (by kernel_rfl) (by kernel_rfl) Ybaf.func5 (by kernel_rfl)
    (of_decide_eq_true (by kernel_rfl)) (of_decide_eq_true (by kernel_rfl)) stops.symm rfl stopKnobs.symm (by kernel_rfl)
    (by kernel_rfl) (by kernel_rfl) (by kernel_rfl) (by kernel_rfl) (by kernel_rfl) (by kernel_rfl) (by kernel_rfl) (by kernel_rfl) (by kernel_rfl) rfl (by kernel_rfl) rfl rfl
    rfl rfl
    rfl (by kernel_rfl) (by kernel_rfl) (by kernel_rfl) (by decide) (by kernel_rfl) lawS0106CSpec_row_tie
    (OpenClaim.moreEntering_of (by kernel_rfl) (by kernel_rfl) (by kernel_rfl) (by kernel_rfl) (by kernel_rfl) (by kernel_rfl) (by kernel_rfl) (by kernel_rfl) (by kernel_rfl) (by kernel_rfl))
    ⟨_, WideRow.started_initial, quiet _⟩
    (fun os started _ H enc _ => lifted os started H enc)
#print axioms proved
end Go.Proofs.YbulkbecFmt.lawS0106CSpec
