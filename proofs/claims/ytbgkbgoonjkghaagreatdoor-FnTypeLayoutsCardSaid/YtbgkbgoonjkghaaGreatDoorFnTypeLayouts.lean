/- FnTypeLayouts: for every two layouts, list of definitions and number that the statement lets in, the type is told the same in both, and each argument reads behind the call as it read before. Conditions: those of the given row and card alone (the listed package variables read as the program's text lays them). -/
import Derived.Test.YtbgkbgoonjkghaaGreatDoorA3
import Derived.Test.YtbgkbgoonjkghaaGreatDoorA6
import Derived.Test.YtbgkbgoonjkghaaGreatDoorA14
import Derived.Test.YtbgkbgoonjkghaaGreatDoorTie
import Derived.Test.YtbgkbgoonjkghaaGreatDoorCards
import Derived.SevenTiedAt
namespace Go.Proofs.YtbgkbgoonjkghaaGreatDoor
open Go Go.Sl
set_option maxRecDepth 10000
set_option maxHeartbeats 40000000
theorem fnTypeLayouts_ok {Γ : Env} {H : List Blk} {l m : Lay} {ds : List Df} {v2 : Value} {k : Int} (hG : Glob Γ) (h2 : Arr Γ (DfC Γ) v2 ds) :
  Spc Tryz.prog 4 #[layV l, layV m, v2, .int .i64 k] Γ H (fun v Γ' H' => v = .bool true) := by
 have g2 := h2
 obtain ⟨a2, cap2, cells2, rfl, hcap2, hA2, hL2⟩ := h2
 refine Spc.body4 Tryz.func4 rfl Tryz.ntmps4 rfl ?_
 refine WC.seq ?_
 refine WC.region ?_
 (refine WL.box rfl spi_ rfl ?_; intro b4)
 (refine WL.box rfl spi_ rfl ?_; intro b5)
 refine hz_ ?_
 refine WL.call rfl Tryz.call7 rfl rfl (by exact (zzFits1_ok g2)) ?_
 rintro _ _ _ - ⟨rfl, rfl, f7, rfl, hf7⟩
 refine hz_ ?_
 cases f7 with
 | false =>
  refine hz_ ?_
  exact end_1 rfl rfl (Env.le.rfl' _) rfl
 | true =>
 obtain ⟨hfl, hfs⟩ := hf7 rfl
 refine hz_ ?_
 cases e0 : (l.size != m.size) with
 | true =>
  refine hz_ ?_
  exact end_1 rfl rfl (Env.le.rfl' _) rfl
 | false =>
 refine hz_ ?_
 refine WL.call rfl Tryz.call8 rfl rfl (by exact (areDefs_ok (l := l) g2 hfl hfs)) ?_
 rintro _ _ _ - ⟨rfl, rfl, f8, rfl, hf8⟩
 refine hz_ ?_
 cases f8 with
 | false =>
  refine hz_ ?_
  exact end_1 rfl rfl (Env.le.rfl' _) rfl
 | true =>
 refine hz_ ?_
 refine WL.call rfl Tryz.call8 rfl rfl (by exact (areDefs_ok (l := m) g2 hfl hfs)) ?_
 rintro _ _ _ - ⟨rfl, rfl, f9, rfl, hf9⟩
 refine hz_ ?_
 cases f9 with
 | false =>
  refine hz_ ?_
  exact end_1 rfl rfl (Env.le.rfl' _) rfl
 | true =>
 refine hz_ ?_
 cases e1 : decide (k < 0) with
 | true =>
  refine hz_ ?_
  exact end_1 rfl rfl (Env.le.rfl' _) rfl
 | false =>
 refine hz_ ?_
 cases e2 : decide ((ds.length : Int) ≤ k) with
 | true =>
  refine hz_ ?_
  exact end_1 rfl rfl (Env.le.rfl' _) rfl
 | false =>
 have hokl := hf8 rfl
 have hokm := hf9 rfl
 have k1 := of_decide_eq_false e1
 have k2 := of_decide_eq_false e2
 obtain ⟨kn, rfl⟩ : ∃ kn : Nat, k = (kn : Int) := ⟨k.toNat, by omega⟩
 have hkn : kn < ds.length := by omega
 have hlm : l.size = m.size := by simpa using e0
 refine hz_ ?_
 refine WL.call rfl Tryz.call9 rfl rfl (by exact (types_ok g2 hokl)) ?_
 rintro _ Γ1 _ hle1 ⟨sc, vp, rfl, hsc, hvp, rfl⟩
 obtain ⟨x1, n1, c1, x2, n2, c2, x3, n3, c3, x4, n4, c4, x5, n5, c5, x6, n6, c6, rfl⟩ := SecR.shapeT hsc
 refine hz_ ?_
 (refine WL.alloc tab_ok rfl rfl ?_; intro b9)
 refine hz_ ?_
 refine WL.call rfl Tryz.call9 rfl rfl (by exact (types_ok (g2.mono hle1 fun _ _ h => h.mono hle1) hokm)) ?_
 rintro _ Γ2 _ hle2 ⟨sd, vq, rfl, hsd, hvq, rfl⟩
 obtain ⟨y1, r1, d1, y2, r2, d2, y3, r3, d3, y4, r4, d4, y5, r5, d5, y6, r6, d6, rfl⟩ := SecR.shapeT hsd
 refine hz_ ?_
 (refine WL.alloc tab_ok rfl rfl ?_; intro b11)
 have hvp2 := hvp.mono hle2 fun _ _ h => h
 have hsc2 := SecR.mono' hle2 hsc
 obtain ⟨p0, pc, pcells, rfl, hpc, hpI, hpL⟩ := hvp2
 obtain ⟨q0, qc, qcells, rfl, hqc, hqI, hqL⟩ := hvq
 refine hz_ ?_
 rw [PLI_length, PLI_length]
 rw [PLI_length] at hpc hqc
 obtain ⟨dk, hdk⟩ : ∃ d, ds[kn]? = some d := ⟨_, List.getElem?_eq_getElem hkn⟩
 obtain ⟨pb, po, -, rfl, -, -⟩ := elemA hpI hpL (fun _ _ h => NumC.len h) (w := 1) (by decide) (PLI_get hokl hdk)
 obtain ⟨qb, qo, -, rfl, -, -⟩ := elemA hqI hqL (fun _ _ h => NumC.len h) (w := 1) (by decide) (PLI_get hokm hdk)
 have hwk : IntKind.i64.wrap ((kn : Int) + 1) = (kn : Int) + 1 := w_i64 (by omega) (by omega)
 refine WC.draw 14 (.take 0 (.take 1 (.take 2 (.take 3 (.take 4 (.one 5 (.one 6 (.take 7 (.take 8 (.take 9 (.take 10 (.one 11 (.one 12 (.one 13 .done)))))))))))))) ((b9, cel [.slice x1 n1 c1, .slice x2 n2 c2, .slice x3 n3 c3, .slice x4 n4 c4, .slice x5 n5 c5, .slice x6 n6 c6, nls] 30) :: []) mixed hsb_ (by decide +kernel) ?_
 refine jz_ ?_
 rw [hwk]
 refine jz_ ?_
 refine WL.call rfl Tryz.call12 rfl rfl (by exact (typesAt_ok (hG.mono (hle1.trans hle2)) hokl hsc2 (place1 hokl hpI hpL hdk hpc) (fun j hj => by rw [List.mem_singleton.1 hj]; exact hkn) (by simp))) ?_
 rintro _ Γ3 _ hle3 ⟨t1, w1, u1, rfl, ht1, hw1, hu1, rfl, htn⟩
 refine jz_ ?_
 refine hz_ ?_
 have ht1 := ht1
 refine WC.cutM (fun R' Γ' H' => ∃ (R : TSt × Int) (t1a t2a : Option Addr) (t1c t2c : Nat) (t1l t2l : List Value) (w1b w1o w1c w2b w2o w2c u1b u1o u1c u2b u2o u2c : Nat), Γ3.le Γ' ∧ InvT l ds [] R.1 ∧ R.1.told.length ≤ 1000 ∧
   R' = [(13, .slice t1a R.1.told.length t1c), (14, .slice (some ⟨w1b, w1o, none⟩) 1 w1c), (15, .slice (some ⟨u1b, u1o, none⟩) 1 u1c), (16, .slice t2a R.1.told.length t2c), (17, .slice (some ⟨w2b, w2o, none⟩) 1 w2c), (18, .slice (some ⟨u2b, u2o, none⟩) 1 u2c)] ∧
   ImA Γ' t1a t1l ∧ LisC (TyC Γ') R.1.told t1l ∧ ImA Γ' t2a t2l ∧ LisC (TyC Γ') R.1.told t2l ∧
   Γ'.cell w1b (w1o + (0 : Int).toNat * 1) = some (.int .i64 R.2) ∧ Γ'.cell w2b (w2o + (0 : Int).toNat * 1) = some (.int .i64 R.2) ∧ Γ'.cell u1b (u1o + (0 : Int).toNat * 1) = some (.int .i64 0) ∧ Γ'.cell u2b (u2o + (0 : Int).toNat * 1) = some (.int .i64 0) ∧ H' = H) ?_ ?_
 ·refine WC.draw 14 (.take 0 (.take 1 (.take 2 (.take 3 (.take 4 (.one 5 (.one 6 (.take 7 (.take 8 (.take 9 (.take 10 (.one 11 (.one 12 (.one 13 .done)))))))))))))) ((b11, cel [.slice y1 r1 d1, .slice y2 r2 d2, .slice y3 r3 d3, .slice y4 r4 d4, .slice y5 r5 d5, .slice y6 r6 d6, nls] 30) :: []) mixed hsb_ (by decide +kernel) ?_
  refine jz_ ?_
  rw [hwk]
  refine jz_ ?_
  refine WL.call rfl Tryz.call12 rfl rfl (by exact (typesAt_ok ((hG.mono (hle1.trans hle2)).mono hle3) hokm (SecR.mono' hle3 hsd) ((place1 hokm hqI hqL hdk hqc).mono hle3 fun _ _ h => h) (fun j hj => by rw [List.mem_singleton.1 hj]; exact hkn) (by simp))) ?_
  rintro _ Γ4 _ hle4 ⟨t2, w2, u2, rfl, ht2, hw2, hu2, rfl, -⟩
  rw [← runT_lay hlm ds 1000, runT1] at ht2 hw2
  rw [runT1] at ht1 hw1 htn
  have hIn : InvT l ds [] (numNd l ds 1000 ⟨[], []⟩ (kn, 0)).1 := by
   have := (runT_g hokl [kn] ⟨[], []⟩ inv0 (fun j hj => by rw [List.mem_singleton.1 hj]; exact hkn)).1
   rwa [runT1] at this
  generalize numNd l ds 1000 ⟨[], []⟩ (kn, 0) = rr at ht1 ht2 hw1 hw2 hIn htn
  have ht1' : Arr Γ4 (TyC Γ4) t1 rr.1.told := ht1.mono hle4 fun _ _ h => TyC.mono hle4 h
  have ht2' : Arr Γ4 (TyC Γ4) t2 rr.1.told := ht2
  have hw1' : Arr Γ4 NumC w1 [rr.2] := hw1.mono hle4 fun _ _ h => h
  have hw2' : Arr Γ4 NumC w2 [rr.2] := hw2
  have hu1' : Arr Γ4 NumC u1 [0] := hu1.mono hle4 fun _ _ h => h
  have hu2' : Arr Γ4 NumC u2 [0] := hu2
  obtain ⟨t1a, t1c, t1l, rfl, ht1c, ht1I, ht1L⟩ := ht1'
  obtain ⟨t2a, t2c, t2l, rfl, ht2c, ht2I, ht2L⟩ := ht2'
  obtain ⟨w1b, w1o, w1c, rfl, hw1g⟩ := arr1 hw1'
  obtain ⟨w2b, w2o, w2c, rfl, hw2g⟩ := arr1 hw2'
  obtain ⟨u1b, u1o, u1c, rfl, hu1g⟩ := arr1 hu1'
  obtain ⟨u2b, u2o, u2c, rfl, hu2g⟩ := arr1 hu2'
  refine jz_ ?_
  exact WE.mid ⟨rr, t1a, t2a, t1c, t2c, t1l, t2l, w1b, w1o, w1c, w2b, w2o, w2c, u1b, u1o, u1c, u2b, u2o, u2c, hle4, hIn, htn, rfl, ht1I, ht1L, ht2I, ht2L, hw1g, hw2g, hu1g, hu2g, rfl⟩ sr_ sn_
 clear ht1 hw1 hu1 hsc hsc2 hvp hpI hpL hqI hqL hsd
 rintro R' Γ5 H2 ⟨rr, t1a, t2a, t1c, t2c, t1l, t2l, w1b, w1o, w1c, w2b, w2o, w2c, u1b, u1o, u1c, u2b, u2o, u2c, hle5, hIn, htn, rfl, ht1I, ht1L, ht2I, ht2L, hw1g, hw2g, hu1g, hu2g, rfl⟩
 refine hz_ ?_
 refine WC.draw 46 (.take 0 (.take 1 (.take 2 (.take 3 (.take 4 (.take 5 (.take 6 (.take 7 (.take 8 (.take 9 (.take 10 (.take 11 (.take 12 (.take 13 (.take 14 (.take 15 (.take 16 (.take 17 (.take 18 (.take 19 (.take 20 (.take 21 (.take 22 (.take 23 (.take 24 (.one 25 (.take 26 (.take 27 (.take 28 (.take 29 (.take 30 (.take 31 (.take 32 (.take 33 (.take 34 (.take 35 (.take 36 (.take 37 (.take 38 (.take 39 (.take 40 (.take 41 (.take 42 (.take 43 (.one 44 (.take 45 .done)))))))))))))))))))))))))))))))))))))))))))))) ([] : List Blk) mixed hsb_ (by decide +kernel) ?_
 refine rz_ ?_
 rw [bne_self_eq_false]
 refine rz_ ?_
 rw [bne_self_eq_false]
 refine rz_ ?_
 refine hz_ ?_
 refine WC.loopE (fun m R' Γ' H' => ∃ i, R' = [(13, .slice t1a rr.1.told.length t1c), (16, .slice t2a rr.1.told.length t2c), (131, .int .i64 (rr.1.told.length : Int)), (132, .int .i64 ((i : Nat) : Int))] ∧ Γ5 = Γ' ∧ H' = H2 ∧ m = rr.1.told.length - i ∧ i ≤ rr.1.told.length)
  ⟨0, rfl, rfl, rfl, rfl, Nat.zero_le _⟩ sr_ sn_ ?_
 rintro m R' Γ' H' ⟨i, rfl, rfl, rfl, rfl, hi⟩
 rcases Nat.lt_or_ge i rr.1.told.length with hlt | hge
 case inr =>
  have ei : i = rr.1.told.length := by omega
  subst ei
  refine hz_ ?_
  refine WC.condF rfl (decide_eq_false (by omega)) ?_
  refine hz_ ?_
  exact end_1 rfl rfl (hle1.trans (hle2.trans (hle3.trans hle5))) rfl
 obtain ⟨t, ht⟩ : ∃ t, rr.1.told[i]? = some t := ⟨_, List.getElem?_eq_getElem hlt⟩
 obtain ⟨x, d, -, hF⟩ := hIn.get ht
 obtain ⟨o1, k1, c1, rfl, hP1, hc1⟩ := elemA ht1I ht1L (fun _ _ h => TyC.len h) (w := 10) (by decide) ht
 obtain ⟨o2, k2, c2, rfl, hP2, hc2⟩ := elemA ht2I ht2L (fun _ _ h => TyC.len h) (w := 10) (by decide) ht
 have hwi : IntKind.i64.wrap ((i : Int) + 1) = (i : Int) + 1 := w_i64 (by omega) (by omega)
 have hQ1 := hP1
 have hQ2 := hP2
 obtain ⟨_, _, _, rfl, ⟨_, _, _, rfl, -, -, -⟩, ⟨_, _, _, rfl, -, -, -⟩, ⟨_, _, _, rfl, -, -, -⟩⟩ := hP1
 obtain ⟨_, _, _, rfl, ⟨_, _, _, rfl, -, -, -⟩, ⟨_, _, _, rfl, -, -, -⟩, ⟨_, _, _, rfl, -, -, -⟩⟩ := hP2
 refine hz_ ?_
 refine WC.condT rfl tr_ ?_
 refine hz_ ?_
 refine WC.draw 10 (.take 0 (.take 1 (.take 2 (.take 3 (.take 4 (.take 5 (.take 6 (.take 7 (.one 8 (.take 9 .done)))))))))) ([] : List Blk) mixed hsb_ (by decide +kernel) ?_
 refine rz_ ?_
 refine WL.call rfl Tryz.call14 rfl rfl (by exact (sameType_ok (kn := true) hQ1 hQ2 (fun _ => rfl) (Nat.le_trans hF.mems (by decide)) (Nat.le_trans hF.pars (by decide)) (Nat.le_trans hF.cons (by decide)))) ?_
 rintro _ _ _ - ⟨rfl, rfl, rfl⟩
 refine rz_ ?_
 refine hz_ ?_
 exact WE.again ⟨i + 1, rfl, rfl, rfl, rfl, hlt⟩ (by omega) ⟨rfl, rfl, rfl, congrArg (fun z => some (Value.int .i64 z)) hwi, trivial⟩ sn_
open Go Go.Sl Go.ChangeShapes Go.WideShapes Go.ChangeMaps Go.WideElems Go.RowKit
set_option maxRecDepth 100000
theorem fnTypeLayouts_lifted (os : Os) (started : os.Started) (HH : Type) (enc : TypeId × Value → HH) :
  ReturnsInHanded {} Tryz.checked os 4 .any (fun w args => (Rows.fnTypeLayoutsSpec.pre enc Tryz.prog Tryz.f4 [] false w args ∧ laidMetH Tryz.prog laidAll w) ∧ sizedMet enc Tryz.prog Tryz.f4 (OpenSpec.ofChange Rows.fnTypeLayoutsSpec) false w args)
   (Rows.fnTypeLayoutsSpec.post enc Tryz.prog Tryz.f4 false true false false) := by
 refine returnsInHanded_of_change_and (C := Tryz.checked) (X := fun w _ => laidMetH Tryz.prog laidAll w) (fun _ _ _ hh h => h.of_heap hh) own started (by kernel_rfl) Tryz.func4
  (ChangeSpec.witness_shaped (enc := enc) (C := Tryz.checked) (os := os) (X := fun w _ => laidMetH Tryz.prog laidAll w) false (World.doorLaid Tryz.prog 400 os) #[.agg #[.int .i64 0, .bool false, .int .i64 0, .bool false, .bool false], .agg #[.int .i64 0, .bool false, .int .i64 0, .bool false, .bool false], .slice none 0 0, .int .i64 0] 8 rfl (World.shaped_of_RefB (by kernel_rfl) (by kernel_rfl)) (by kernel_rfl) (by kernel_rfl) (by kernel_rfl) (door_met os _)) ?_
 intro W base args ds gs before hval hW _ _ hL _
 have hW2 := hW
 obtain ⟨p, q, hA, hV, rfl, hfz, hnd⟩ := hW2
 rw [show Tryz.f4.params.toList = [23, 23, 24, 3] by kernel_rfl] at hA
 have hp : Tryz.f4.params = #[23, 23, 24, 3] := by kernel_rfl
 rw [hp] at hval
 obtain ⟨v0, vs0, d0, ds0, p0, q0, hargs, rfl, rfl, h0, hA0⟩ := trodAll_cons hA
 obtain ⟨v1, vs1, d1, ds1, p1, q1, rfl, rfl, rfl, h1, hA1⟩ := trodAll_cons hA0
 obtain ⟨v2, vs2, d2, ds2, p2, q2, rfl, rfl, rfl, h2, hA2⟩ := trodAll_cons hA1
 obtain ⟨v3, vs3, d3, ds3, p3, q3, rfl, rfl, rfl, h3, hA3⟩ := trodAll_cons hA2
 obtain ⟨rfl, rfl, rfl⟩ := trodAll_nil hA3
 obtain rfl : args = #[v0, v1, v2, v3] := by cases args; simp_all
 clear hargs
 obtain ⟨l0, rfl⟩ := openLay (hval 0 _ _ rfl rfl) h0
 obtain ⟨l1, rfl⟩ := openLay (hval 1 _ _ rfl rfl) h1
 obtain ⟨xs2, hX2⟩ := openDefs (hval 2 _ _ rfl rfl) h2
 obtain ⟨k3, rfl⟩ := okWide_int Tryz.underlying3 (hval 3 _ _ rfl rfl)
 have hgl := trodVars_len hV
 obtain ⟨g0, g1, g2, rfl⟩ : ∃ g0 g1 g2, gs = [g0, g1, g2] := by
  match gs, hgl with
  | [a, b, c], _ => exact ⟨a, b, c, rfl⟩
 refine (calls_of_spc (fnTypeLayouts_ok (glob_of_laid hL) hX2) (fun _ _ _ h => h)).mono ?_
 rintro e W' ⟨rfl, hE, hos, hout⟩
 exact ⟨_, rfl, post_ext laidOut_ok hW hE hos hout (readablePar_ok (by kernel_rfl)) (readableVar_ok (by kernel_rfl)) (show Tryz.f4.resultTypes = #[4] by kernel_rfl) Tryz.underlying4 rfl⟩
theorem fnTypeLayouts_holds : Rows.FnTypeLayoutsSaid :=
 OpenClaim.holds_of_wide 4 Tryz.f4 rfl rfl rfl rfl rfl rfl rfl ⟨rfl, rfl, rfl, rfl, rfl⟩ rfl rfl rfl rfl rfl (by kernel_rfl) Tryz.func4 (by kernel_rfl)
  (of_decide_eq_true (by kernel_rfl)) (by unfold Func.isWrapper; first | (rw [if_pos (by decide +kernel)]; kernel_rfl) | (rw [if_neg (by decide +kernel)]; exact ⟨rfl, rfl⟩))
  (fun os started HH enc _ => fnTypeLayouts_lifted os started HH enc)
theorem fnTypeLayouts_card : Rows.FnTypeLayoutsCardSaid :=
 Claim7.holds_tied_plain_at .later [] [.data, .data, .data, .sentinel, .mapped, .mapped, .sentinel] true (true, "5bfc2104a31c676734a0ee88cb3d1252d552a2e3c3f5d78b189574f23f978593") true
  fnTypeLayouts_holds (fun _ h => by cases h) (by kernel_rfl) (fun _ h => by cases h) fnTypeLayouts_row_tie rfl ⟨rfl, rfl⟩ (by kernel_rfl) rfl
  (fun f fn hf hfn => by
   obtain rfl : f = 4 := Option.some.inj ((show Tryz.prog.funcNamed "loop.example/pub-g03041/laws.FnTypeLayouts" = some 4 by kernel_rfl).symm.trans hf) |>.symm
   obtain rfl : fn = Tryz.f4 := (Option.some.inj (Tryz.func4.symm.trans hfn)).symm
   exact ⟨by kernel_rfl, fun j t ht => by
    rw [show Tryz.f4.params = #[23, 23, 24, 3] by kernel_rfl] at ht
    have hm : t ∈ [23, 23, 24, 3] := by simpa using Array.mem_of_getElem? ht
    have hall : ([23, 23, 24, 3].all fun u => !Tryz.prog.wantsStandIn u) = true := by kernel_rfl
    exact (show Tryz.prog.wantsStandIn t = false by simpa using List.all_eq_true.1 hall t hm)⟩)
  (by kernel_rfl)
#print axioms fnTypeLayouts_card
end Go.Proofs.YtbgkbgoonjkghaaGreatDoor
