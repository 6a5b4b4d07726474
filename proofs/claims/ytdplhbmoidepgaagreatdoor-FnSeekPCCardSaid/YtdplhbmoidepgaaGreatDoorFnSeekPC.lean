/- FnSeekPC: for every layout, spans, units and place that the statement lets in, the package finds the one unit that covers the place and reads its other entries behind it, or tells the error of an unknown place if none covers it; each argument reads behind the call as it read before. Conditions: those of the given row and card alone (the listed package variables read as the program's text lays them). -/
import Derived.Test.YtdplhbmoidepgaaGreatDoorR1
import Derived.Test.YtdplhbmoidepgaaGreatDoorS3
import Derived.Test.YtdplhbmoidepgaaGreatDoorTie
import Derived.Test.YtdplhbmoidepgaaGreatDoorCards
import Derived.SevenTiedAt
namespace Go.Proofs.YtdplhbmoidepgaaGreatDoor
open Go Go.Sl Go.ChangeShapes Go.WideShapes Go.ChangeMaps Go.WideElems Go.RowKit
set_option maxRecDepth 100000
set_option maxHeartbeats 40000000

theorem fnSeekPC_lifted (os : Os) (started : os.Started) (HH : Type) (enc : TypeId × Value → HH) :
    ReturnsInHanded {} Tryz.checked os 6 .any (fun w args => (Rows.fnSeekPCSpec.pre enc Tryz.prog Tryz.f6 [] false w args ∧ laidMetH Tryz.prog laidAll w) ∧ sizedMet enc Tryz.prog Tryz.f6 (OpenSpec.ofChange Rows.fnSeekPCSpec) false w args)
      (Rows.fnSeekPCSpec.post enc Tryz.prog Tryz.f6 false true false false) := by
  refine returnsInHanded_of_change_and (C := Tryz.checked) (X := fun w _ => laidMetH Tryz.prog laidAll w) (fun _ _ _ hh h => h.of_heap hh) own started (by kernel_rfl) Tryz.func6
    (ChangeSpec.witness_shaped (enc := enc) (C := Tryz.checked) (os := os) (X := fun w _ => laidMetH Tryz.prog laidAll w) false (World.doorLaid Tryz.prog 400 os) #[.agg #[.int .i64 0, .bool false, .int .i64 0, .bool false, .bool false], .slice none 0 0, .slice none 0 0, .int .u64 0] 8 rfl (World.shaped_of_RefB (by kernel_rfl) (by kernel_rfl)) (by kernel_rfl) (by kernel_rfl) (by kernel_rfl) (door_met os _)) ?_
  intro W base args ds gs before hval hW _ _ hL _
  have hW2 := hW
  obtain ⟨p, q, hA, hV, rfl, hfz, hnd⟩ := hW2
  rw [show Tryz.f6.params.toList = [23, 24, 25, 51] by kernel_rfl] at hA
  have hp : Tryz.f6.params = #[23, 24, 25, 51] := by kernel_rfl
  rw [hp] at hval
  obtain ⟨v0, vs0, d0, ds0, p0, q0, hargs, rfl, rfl, h0, hA0⟩ := trodAll_cons hA
  obtain ⟨v1, vs1, d1, ds1, p1, q1, rfl, rfl, rfl, h1, hA1⟩ := trodAll_cons hA0
  obtain ⟨v2, vs2, d2, ds2, p2, q2, rfl, rfl, rfl, h2, hA2⟩ := trodAll_cons hA1
  obtain ⟨v3, vs3, d3, ds3, p3, q3, rfl, rfl, rfl, h3, hA3⟩ := trodAll_cons hA2
  obtain ⟨rfl, rfl, rfl⟩ := trodAll_nil hA3
  obtain rfl : args = #[v0, v1, v2, v3] := by cases args; simp_all
  clear hargs
  obtain ⟨l, rfl⟩ := openLay (hval 0 _ _ rfl rfl) h0
  obtain ⟨sp, hS⟩ := openSpans (hval 1 _ _ rfl rfl) h1
  obtain ⟨us, hU⟩ := openUnits (hval 2 _ _ rfl rfl) h2
  obtain ⟨k3, rfl, -, -, w3⟩ := open_int Tryz.underlying51 (hval 3 _ _ rfl rfl) h3
  obtain ⟨pc, rfl, -⟩ := u64_of w3
  obtain ⟨a1, hSent⟩ := sent_of_laid hL
  have hgl := trodVars_len hV
  obtain ⟨g0, g1, g2, rfl⟩ : ∃ g0 g1 g2, gs = [g0, g1, g2] := by
    match gs, hgl with
    | [a, b, c], _ => exact ⟨a, b, c, rfl⟩
  refine (calls_of_spc (fnSeekPC_ok (glob_of_laid hL) hSent hS hU) (fun _ _ _ h => h)).mono ?_
  rintro e W' ⟨rfl, hE, hos, hout⟩
  exact ⟨_, rfl, post_ext laidOut_ok hW hE hos hout (readablePar_ok (by kernel_rfl)) (readableVar_ok (by kernel_rfl)) (show Tryz.f6.resultTypes = #[4] by kernel_rfl) Tryz.underlying4 rfl⟩
theorem fnSeekPC_holds : Rows.FnSeekPCSaid :=
  OpenClaim.holds_of_wide 6 Tryz.f6 rfl rfl rfl rfl rfl rfl rfl ⟨rfl, rfl, rfl, rfl, rfl⟩ rfl rfl rfl rfl rfl (by kernel_rfl) Tryz.func6 (by kernel_rfl)
    (of_decide_eq_true (by kernel_rfl)) (by unfold Func.isWrapper; first | (rw [if_pos (by decide +kernel)]; kernel_rfl) | (rw [if_neg (by decide +kernel)]; exact ⟨rfl, rfl⟩))
    (fun os started HH enc _ => fnSeekPC_lifted os started HH enc)
theorem fnSeekPC_card : Rows.FnSeekPCCardSaid :=
  Claim7.holds_tied_plain_at .later [] [.data, .data, .data, .sentinel, .mapped, .mapped, .sentinel] true (true, "a5242c13af89755f857ca7ad865eecf6406354a9cb09194a5d62af3dbe933335") true
    fnSeekPC_holds (fun _ h => by cases h) (by kernel_rfl) (fun _ h => by cases h) fnSeekPC_row_tie rfl ⟨rfl, rfl⟩ (by kernel_rfl) rfl
    (fun f fn hf hfn => by
      obtain rfl : f = 6 := Option.some.inj ((show Tryz.prog.funcNamed "loop.example/pub-g03041/laws.FnSeekPC" = some 6 by kernel_rfl).symm.trans hf) |>.symm
      obtain rfl : fn = Tryz.f6 := (Option.some.inj (Tryz.func6.symm.trans hfn)).symm
      exact ⟨by kernel_rfl, fun j t ht => by
        rw [show Tryz.f6.params = #[23, 24, 25, 51] by kernel_rfl] at ht
        have hm : t ∈ [23, 24, 25, 51] := by simpa using Array.mem_of_getElem? ht
        have hall : ([23, 24, 25, 51].all fun u => !Tryz.prog.wantsStandIn u) = true := by kernel_rfl
        exact (show Tryz.prog.wantsStandIn t = false by simpa using List.all_eq_true.1 hall t hm)⟩)
    (by kernel_rfl)
#print axioms fnSeekPC_card
end Go.Proofs.YtdplhbmoidepgaaGreatDoor
