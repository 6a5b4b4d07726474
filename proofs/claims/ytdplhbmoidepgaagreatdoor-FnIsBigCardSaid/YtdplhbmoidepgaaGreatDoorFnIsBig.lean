/- FnIsBig: for every layout, spans and units that the statement lets in, the reader of the sections that are made of them tells the layout's order of bytes, and each argument reads behind the call as it read before. Conditions: those of the given row and card alone (the listed package variables read as the program's text lays them). -/
import Derived.Test.YtdplhbmoidepgaaGreatDoorR1
import Derived.Test.YtdplhbmoidepgaaGreatDoorH4
import Derived.Test.YtdplhbmoidepgaaGreatDoorTie
import Derived.Test.YtdplhbmoidepgaaGreatDoorCards
import Derived.SevenTiedAt
namespace Go.Proofs.YtdplhbmoidepgaaGreatDoor
open Go Go.Sl Go.ChangeShapes Go.WideShapes Go.ChangeMaps Go.WideElems Go.RowKit
set_option maxRecDepth 100000
set_option maxHeartbeats 40000000

theorem fnIsBig_lifted (os : Os) (started : os.Started) (HH : Type) (enc : TypeId × Value → HH) :
    ReturnsInHanded {} Tryz.checked os 3 .any (fun w args => (Rows.fnIsBigSpec.pre enc Tryz.prog Tryz.f3 [] false w args ∧ laidMetH Tryz.prog laidAll w) ∧ sizedMet enc Tryz.prog Tryz.f3 (OpenSpec.ofChange Rows.fnIsBigSpec) false w args)
      (Rows.fnIsBigSpec.post enc Tryz.prog Tryz.f3 false true false false) := by
  refine returnsInHanded_of_change_and (C := Tryz.checked) (X := fun w _ => laidMetH Tryz.prog laidAll w) (fun _ _ _ hh h => h.of_heap hh) own started (by kernel_rfl) Tryz.func3
    (ChangeSpec.witness_shaped (enc := enc) (C := Tryz.checked) (os := os) (X := fun w _ => laidMetH Tryz.prog laidAll w) false (World.doorLaid Tryz.prog 400 os) #[.agg #[.int .i64 0, .bool false, .int .i64 0, .bool false, .bool false], .slice none 0 0, .slice none 0 0] 8 rfl (World.shaped_of_RefB (by kernel_rfl) (by kernel_rfl)) (by kernel_rfl) (by kernel_rfl) (by kernel_rfl) (door_met os _)) ?_
  intro W base args ds gs before hval hW _ _ hL _
  have hW2 := hW
  obtain ⟨p, q, hA, hV, rfl, hfz, hnd⟩ := hW2
  rw [show Tryz.f3.params.toList = [23, 24, 25] by kernel_rfl] at hA
  have hp : Tryz.f3.params = #[23, 24, 25] := by kernel_rfl
  rw [hp] at hval
  obtain ⟨v0, v1, v2, d0, d1, d2, p0, p1, p2, rfl, rfl, rfl, h0, h1, h2⟩ := trodAll_three hA
  obtain ⟨l, rfl⟩ := openLay (hval 0 _ _ rfl rfl) h0
  obtain ⟨sp, hS⟩ := openSpans (hval 1 _ _ rfl rfl) h1
  obtain ⟨us, hU⟩ := openUnits (hval 2 _ _ rfl rfl) h2
  have hgl := trodVars_len hV
  obtain ⟨g0, g1, g2, rfl⟩ : ∃ g0 g1 g2, gs = [g0, g1, g2] := by
    match gs, hgl with
    | [a, b, c], _ => exact ⟨a, b, c, rfl⟩
  refine (calls_of_spc (fnIsBig_ok (glob_of_laid hL) hS hU) (fun _ _ _ h => h)).mono ?_
  rintro e W' ⟨rfl, hE, hos, hout⟩
  exact ⟨_, rfl, post_ext laidOut_ok hW hE hos hout (readablePar_ok (by kernel_rfl)) (readableVar_ok (by kernel_rfl)) (show Tryz.f3.resultTypes = #[4] by kernel_rfl) Tryz.underlying4 rfl⟩
theorem fnIsBig_holds : Rows.FnIsBigSaid :=
  OpenClaim.holds_of_wide 3 Tryz.f3 rfl rfl rfl rfl rfl rfl rfl ⟨rfl, rfl, rfl, rfl, rfl⟩ rfl rfl rfl rfl rfl (by kernel_rfl) Tryz.func3 (by kernel_rfl)
    (of_decide_eq_true (by kernel_rfl)) (by unfold Func.isWrapper; first | (rw [if_pos (by decide +kernel)]; kernel_rfl) | (rw [if_neg (by decide +kernel)]; exact ⟨rfl, rfl⟩))
    (fun os started HH enc _ => fnIsBig_lifted os started HH enc)
theorem fnIsBig_card : Rows.FnIsBigCardSaid :=
  Claim7.holds_tied_plain_at .later [] [.data, .data, .data, .sentinel, .mapped, .mapped, .sentinel] true (true, "a5242c13af89755f857ca7ad865eecf6406354a9cb09194a5d62af3dbe933335") true
    fnIsBig_holds (fun _ h => by cases h) (by kernel_rfl) (fun _ h => by cases h) fnIsBig_row_tie rfl ⟨rfl, rfl⟩ (by kernel_rfl) rfl
    (fun f fn hf hfn => by
      obtain rfl : f = 3 := Option.some.inj ((show Tryz.prog.funcNamed "loop.example/pub-g03041/laws.FnIsBig" = some 3 by kernel_rfl).symm.trans hf) |>.symm
      obtain rfl : fn = Tryz.f3 := (Option.some.inj (Tryz.func3.symm.trans hfn)).symm
      exact ⟨by kernel_rfl, fun j t ht => by
        rw [show Tryz.f3.params = #[23, 24, 25] by kernel_rfl] at ht
        have hm : t ∈ [23, 24, 25] := by simpa using Array.mem_of_getElem? ht
        have hall : ([23, 24, 25].all fun u => !Tryz.prog.wantsStandIn u) = true := by kernel_rfl
        exact (show Tryz.prog.wantsStandIn t = false by simpa using List.all_eq_true.1 hall t hm)⟩)
    (by kernel_rfl)
#print axioms fnIsBig_card
end Go.Proofs.YtdplhbmoidepgaaGreatDoor
