/- FnTypeIs: for every layout, list of definitions and number that the statement lets in, the type is told with all that it is made of, and each argument reads behind the call as it read before. Conditions: those of the given row and card alone (the listed package variables read as the program's text lays them). -/
import Derived.Test.YtbgkbgoonjkghaaGreatDoorA3
import Derived.Test.YtbgkbgoonjkghaaGreatDoorA6
import Derived.Test.YtbgkbgoonjkghaaGreatDoorA15
import Derived.Test.YtbgkbgoonjkghaaGreatDoorA14
import Derived.Test.YtbgkbgoonjkghaaGreatDoorTie
import Derived.Test.YtbgkbgoonjkghaaGreatDoorCards
import Derived.SevenTiedAt
namespace Go.Proofs.YtbgkbgoonjkghaaGreatDoor
open Go Go.Sl
set_option maxRecDepth 10000
set_option maxHeartbeats 40000000
theorem fnTypeIs_ok {Γ : Env} {H : List Blk} {l : Lay} {ds : List Df} {v2 : Value} {k : Int} (hG : Glob Γ) (h2 : Arr Γ (DfC Γ) v2 ds) :
  Spc Tryz.prog 3 #[layV l, v2, .int .i64 k] Γ H (fun v Γ' H' => v = .bool true) := by
 have g2 := h2
 obtain ⟨a2, cap2, cells2, rfl, hcap2, hA2, hL2⟩ := h2
 refine Spc.body3 Tryz.func3 rfl Tryz.ntmps3 rfl ?_
 refine WC.seq ?_
 refine WC.region ?_
 (refine WL.box rfl spi_ rfl ?_; intro b3)
 refine hz_ ?_
 refine WL.call rfl Tryz.call7 rfl rfl (by exact (zzFits1_ok g2)) ?_
 rintro _ _ _ - ⟨rfl, rfl, f7, rfl, hf7⟩
 refine hz_ ?_
 cases f7 with
 | false =>
  refine hz_ ?_
  exact end_1 rfl rfl (Env.le.rfl' _) rfl
 | true =>
 obtain ⟨hfl, hfs⟩ := hf7 rfl
 refine hz_ ?_
 refine WL.call rfl Tryz.call8 rfl rfl (by exact (areDefs_ok (l := l) g2 hfl hfs)) ?_
 rintro _ _ _ - ⟨rfl, rfl, f8, rfl, hf8⟩
 refine hz_ ?_
 cases f8 with
 | false =>
  refine hz_ ?_
  exact end_1 rfl rfl (Env.le.rfl' _) rfl
 | true =>
 refine hz_ ?_
 cases e1 : decide (k < 0) with
 | true =>
  refine hz_ ?_
  exact end_1 rfl rfl (Env.le.rfl' _) rfl
 | false =>
 refine hz_ ?_
 cases e2 : decide ((ds.length : Int) ≤ k) with
 | true =>
  refine hz_ ?_
  exact end_1 rfl rfl (Env.le.rfl' _) rfl
 | false =>
 have hokl := hf8 rfl
 have k1 := of_decide_eq_false e1
 have k2 := of_decide_eq_false e2
 obtain ⟨kn, rfl⟩ : ∃ kn : Nat, k = (kn : Int) := ⟨k.toNat, by omega⟩
 have hkn : kn < ds.length := by omega
 refine hz_ ?_
 refine WL.call rfl Tryz.call9 rfl rfl (by exact (types_ok g2 hokl)) ?_
 rintro _ Γ1 _ hle1 ⟨sc, vp, rfl, hsc, hvp, rfl⟩
 obtain ⟨x1, n1, c1, x2, n2, c2, x3, n3, c3, x4, n4, c4, x5, n5, c5, x6, n6, c6, rfl⟩ := SecR.shapeT hsc
 refine hz_ ?_
 (refine WL.alloc tab_ok rfl rfl ?_; intro b7)
 have hn1 := hokl.n1
 obtain ⟨dk, hdk⟩ : ∃ d, ds[kn]? = some d := ⟨_, List.getElem?_eq_getElem hkn⟩
 refine hz_ ?_
 refine WL.call rfl Tryz.call10 rfl rfl (by exact (tell_ok rfl)) ?_
 rintro _ _ _ - ⟨rfl, pt, pq, rfl, rfl⟩
 refine hz_ ?_
 have hX1 := g2.mono hle1 fun _ _ h => h.mono hle1
 have hfew : missN ds [] ≤ 1000 := by
  have := (tlR0 (Γ := Γ1) hn1).few
  simp only [List.length_nil] at this
  omega
 refine WL.call rfl Tryz.call11 rfl rfl (by exact ((tl_all hokl hX1 1000).1 (Env.le.rfl' _) (tlR0 hn1) (n := ((kn : Nat) : Int)) (by omega) hfew)) ?_
 rintro _ Γ2 _ hle2 ⟨T, t7, t8, Ht, Hk, ge, gc, rfl, hT, rfl⟩
 rw [numOf_nat] at hT ⊢
 obtain ⟨p0, pc, pcells, rfl, hpc, hpI, hpL⟩ := hvp.mono hle2 fun _ _ h => h
 rw [PLI_length] at hpc
 refine hz_ ?_
 rw [PLI_length]
 obtain ⟨pb, po, -, rfl, -, -⟩ := elemA hpI hpL (fun _ _ h => NumC.len h) (w := 1) (by decide) (PLI_get hokl hdk)
 have hwk : IntKind.i64.wrap ((kn : Int) + 1) = (kn : Int) + 1 := w_i64 (by omega) (by omega)
 refine hz_ ?_
 refine WC.draw 14 (.take 0 (.take 1 (.take 2 (.take 3 (.take 4 (.one 5 (.one 6 (.take 7 (.take 8 (.take 9 (.take 10 (.one 11 (.one 12 (.one 13 .done)))))))))))))) ((b7, cel [.slice x1 n1 c1, .slice x2 n2 c2, .slice x3 n3 c3, .slice x4 n4 c4, .slice x5 n5 c5, .slice x6 n6 c6, nls] 30) :: []) mixed hsb_ (by decide +kernel) ?_
 refine rz_ ?_
 rw [hwk]
 refine rz_ ?_
 refine WL.call rfl Tryz.call12 rfl rfl (by exact (typesAt_ok (hG.mono (hle1.trans hle2)) hokl (SecR.mono' hle2 hsc) (place1 hokl hpI hpL hdk hpc) (fun j hj => by rw [List.mem_singleton.1 hj]; exact hkn) (by simp))) ?_
 rintro _ Γ3 _ hle3 ⟨t1, w1, u1, rfl, ht1, hw1, hu1, rfl, htn⟩
 rw [runT1] at ht1 hw1 htn
 have hIn : InvT l ds [] (numNd l ds 1000 ⟨[], []⟩ (kn, 0)).1 := by
  have := (runT_g hokl [kn] ⟨[], []⟩ inv0 (fun j hj => by rw [List.mem_singleton.1 hj]; exact hkn)).1
  rwa [runT1] at this
 generalize numNd l ds 1000 ⟨[], []⟩ (kn, 0) = rr at hT ht1 hw1 hIn htn ⊢
 have ht1' : Arr Γ3 (TyC Γ3) t1 rr.1.told := ht1
 have hw1' : Arr Γ3 NumC w1 [rr.2] := hw1
 have hu1' : Arr Γ3 NumC u1 [0] := hu1
 refine rz_ ?_
 refine hz_ ?_
 (refine WL.lit tab_ok rfl rfl rfl rfl rfl rfl rfl spi_ rfl ?_; intro bq)
 have hT3 := hT.mono hle3
 obtain ⟨tc, how7, hL7⟩ := hT3.told
 obtain ⟨kc, how8, hL8⟩ := hT3.known
 refine WL.keep how7 tk_ (fun Γ4 k4 m4 => ?_)
 refine WL.keep how8 tk_ (fun Γ5 k5 m5 => ?_)
 refine WL.freeze (b := pt) pk_ (fun k6 => ?_)
 have hpt : ((Γ5.add pt (cel [.int .i64 l.vers, .bool l.wide, .int .i64 l.size, .bool l.big, .bool l.far, .slice a2 ds.length cap2, .map (some pq), t7, t8] 70)).imm pt) = some (cel [.int .i64 l.vers, .bool l.wide, .int .i64 l.size, .bool l.big, .bool l.far, .slice a2 ds.length cap2, .map (some pq), t7, t8] 70) := by simp [Env.add]
 generalize Γ5.add pt (cel [.int .i64 l.vers, .bool l.wide, .int .i64 l.size, .bool l.big, .bool l.far, .slice a2 ds.length cap2, .map (some pq), t7, t8] 70) = Γ6 at k6 hpt ⊢
 refine WL.keep ((Ow.lit (s := 1) (b := bq) (k := 1) (l := [.int .i64 rr.2]) (T := 3) rfl)) t1_ (fun Γ7 k7 m7 => ?_)
 have hle37 := k4.trans (k5.trans (k6.trans k7))
 have a7 : Arr Γ7 (TyC Γ7) t7 (T.map Prod.fst) := Im.arr (by rw [List.length_map]; exact m4.mono (k5.trans (k6.trans k7))) (hL7.imp fun _ _ h => h.mono hle37)
 have a8 : Arr Γ7 BolC t8 (T.map Prod.snd) := Im.arr (by rw [List.length_map]; exact m5.mono (k6.trans k7)) hL8
 have a9 : Arr Γ7 NumC (.slice (some ⟨bq, 0, none⟩) 1 1) [rr.2] := Im.arr (xs := [rr.2]) m7 (LisC.one rfl)
 refine hz_ ?_
 refine WL.call rfl Tryz.call13 rfl rfl (by exact (heardTypes_ok (S := rr.1) (T := T) (ns := [rr.2]) hIn htn (by simp) (ht1'.mono hle37 fun _ _ h => TyC.mono hle37 h) (hw1'.mono hle37 fun _ _ h => h) (hu1'.mono hle37 fun _ _ h => h) a9 hT3.lenT hT3.rel (k7.cell (cell_of hpt rfl)) (k7.cell (cell_of hpt rfl)) a7 a8)) ?_
 rintro _ _ _ - ⟨rfl, rfl, rfl⟩
 refine hz_ ?_
 exact end_1 rfl rfl (hle1.trans (hle2.trans (hle3.trans hle37))) rfl
open Go Go.Sl Go.ChangeShapes Go.WideShapes Go.ChangeMaps Go.WideElems Go.RowKit
set_option maxRecDepth 100000
theorem fnTypeIs_lifted (os : Os) (started : os.Started) (HH : Type) (enc : TypeId × Value → HH) :
  ReturnsInHanded {} Tryz.checked os 3 .any (fun w args => (Rows.fnTypeIsSpec.pre enc Tryz.prog Tryz.f3 [] false w args ∧ laidMetH Tryz.prog laidAll w) ∧ sizedMet enc Tryz.prog Tryz.f3 (OpenSpec.ofChange Rows.fnTypeIsSpec) false w args)
   (Rows.fnTypeIsSpec.post enc Tryz.prog Tryz.f3 false true false false) := by
 refine returnsInHanded_of_change_and (C := Tryz.checked) (X := fun w _ => laidMetH Tryz.prog laidAll w) (fun _ _ _ hh h => h.of_heap hh) own started (by kernel_rfl) Tryz.func3
  (ChangeSpec.witness_shaped (enc := enc) (C := Tryz.checked) (os := os) (X := fun w _ => laidMetH Tryz.prog laidAll w) false (World.doorLaid Tryz.prog 400 os) #[.agg #[.int .i64 0, .bool false, .int .i64 0, .bool false, .bool false], .slice none 0 0, .int .i64 0] 8 rfl (World.shaped_of_RefB (by kernel_rfl) (by kernel_rfl)) (by kernel_rfl) (by kernel_rfl) (by kernel_rfl) (door_met os _)) ?_
 intro W base args ds gs before hval hW _ _ hL _
 have hW2 := hW
 obtain ⟨p, q, hA, hV, rfl, hfz, hnd⟩ := hW2
 rw [show Tryz.f3.params.toList = [23, 24, 3] by kernel_rfl] at hA
 have hp : Tryz.f3.params = #[23, 24, 3] := by kernel_rfl
 rw [hp] at hval
 obtain ⟨v0, vs0, d0, ds0, p0, q0, hargs, rfl, rfl, h0, hA0⟩ := trodAll_cons hA
 obtain ⟨v1, vs1, d1, ds1, p1, q1, rfl, rfl, rfl, h1, hA1⟩ := trodAll_cons hA0
 obtain ⟨v2, vs2, d2, ds2, p2, q2, rfl, rfl, rfl, h2, hA2⟩ := trodAll_cons hA1
 obtain ⟨rfl, rfl, rfl⟩ := trodAll_nil hA2
 obtain rfl : args = #[v0, v1, v2] := by cases args; simp_all
 clear hargs
 obtain ⟨l0, rfl⟩ := openLay (hval 0 _ _ rfl rfl) h0
 obtain ⟨xs1, hX1⟩ := openDefs (hval 1 _ _ rfl rfl) h1
 obtain ⟨k2, rfl⟩ := okWide_int Tryz.underlying3 (hval 2 _ _ rfl rfl)
 have hgl := trodVars_len hV
 obtain ⟨g0, g1, g2, rfl⟩ : ∃ g0 g1 g2, gs = [g0, g1, g2] := by
  match gs, hgl with
  | [a, b, c], _ => exact ⟨a, b, c, rfl⟩
 refine (calls_of_spc (fnTypeIs_ok (glob_of_laid hL) hX1) (fun _ _ _ h => h)).mono ?_
 rintro e W' ⟨rfl, hE, hos, hout⟩
 exact ⟨_, rfl, post_ext laidOut_ok hW hE hos hout (readablePar_ok (by kernel_rfl)) (readableVar_ok (by kernel_rfl)) (show Tryz.f3.resultTypes = #[4] by kernel_rfl) Tryz.underlying4 rfl⟩
theorem fnTypeIs_holds : Rows.FnTypeIsSaid :=
 OpenClaim.holds_of_wide 3 Tryz.f3 rfl rfl rfl rfl rfl rfl rfl ⟨rfl, rfl, rfl, rfl, rfl⟩ rfl rfl rfl rfl rfl (by kernel_rfl) Tryz.func3 (by kernel_rfl)
  (of_decide_eq_true (by kernel_rfl)) (by unfold Func.isWrapper; first | (rw [if_pos (by decide +kernel)]; kernel_rfl) | (rw [if_neg (by decide +kernel)]; exact ⟨rfl, rfl⟩))
  (fun os started HH enc _ => fnTypeIs_lifted os started HH enc)
theorem fnTypeIs_card : Rows.FnTypeIsCardSaid :=
 Claim7.holds_tied_plain_at .later [] [.data, .data, .data, .sentinel, .mapped, .mapped, .sentinel] true (true, "5bfc2104a31c676734a0ee88cb3d1252d552a2e3c3f5d78b189574f23f978593") true
  fnTypeIs_holds (fun _ h => by cases h) (by kernel_rfl) (fun _ h => by cases h) fnTypeIs_row_tie rfl ⟨rfl, rfl⟩ (by kernel_rfl) rfl
  (fun f fn hf hfn => by
   obtain rfl : f = 3 := Option.some.inj ((show Tryz.prog.funcNamed "loop.example/pub-g03041/laws.FnTypeIs" = some 3 by kernel_rfl).symm.trans hf) |>.symm
   obtain rfl : fn = Tryz.f3 := (Option.some.inj (Tryz.func3.symm.trans hfn)).symm
   exact ⟨by kernel_rfl, fun j t ht => by
    rw [show Tryz.f3.params = #[23, 24, 3] by kernel_rfl] at ht
    have hm : t ∈ [23, 24, 3] := by simpa using Array.mem_of_getElem? ht
    have hall : ([23, 24, 3].all fun u => !Tryz.prog.wantsStandIn u) = true := by kernel_rfl
    exact (show Tryz.prog.wantsStandIn t = false by simpa using List.all_eq_true.1 hall t hm)⟩)
  (by kernel_rfl)
#print axioms fnTypeIs_card
end Go.Proofs.YtbgkbgoonjkghaaGreatDoor
