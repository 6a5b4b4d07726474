/- FnTypeSizes: for every layout, list of definitions and number that the statement lets in, each named and each qualified type that is told is as large as what it is made of, and each array as many times as large, and each argument reads behind the call as it read before. Conditions: those of the given row and card alone (the listed package variables read as the program's text lays them). -/
import Derived.Test.YtbgkbgoonjkghaaGreatDoorA3
import Derived.Test.YtbgkbgoonjkghaaGreatDoorA6
import Derived.Test.YtbgkbgoonjkghaaGreatDoorA14
import Derived.Test.YtbgkbgoonjkghaaGreatDoorTie
import Derived.Test.YtbgkbgoonjkghaaGreatDoorCards
import Derived.SevenTiedAt
namespace Go.Proofs.YtbgkbgoonjkghaaGreatDoor
open Go Go.Sl
set_option maxRecDepth 10000
set_option maxHeartbeats 40000000
abbrev tyL (t : Ty) (a b c : Value) : List Value := [.int .i64 t.kind, .string t.name, .string t.own, .int .i64 t.size, .int .i64 t.of, .int .i64 t.count, .bool t.inc, a, b, c]
theorem fnTypeSizes_ok {Γ : Env} {H : List Blk} {l : Lay} {ds : List Df} {v2 : Value} {k : Int} (hG : Glob Γ) (h2 : Arr Γ (DfC Γ) v2 ds) :
  Spc Tryz.prog 5 #[layV l, v2, .int .i64 k] Γ H (fun v Γ' H' => v = .bool true) := by
 have g2 := h2
 obtain ⟨a2, cap2, cells2, rfl, hcap2, hA2, hL2⟩ := h2
 refine Spc.body3 Tryz.func5 rfl Tryz.ntmps5 rfl ?_
 refine WC.seq ?_
 refine WC.region ?_
 (refine WL.box rfl spi_ rfl ?_; intro b3)
 refine hz_ ?_
 refine WL.call rfl Tryz.call7 rfl rfl (by exact (zzFits1_ok g2)) ?_
 rintro _ _ _ - ⟨rfl, rfl, f7, rfl, hf7⟩
 refine hz_ ?_
 cases f7 with
 | false =>
  refine hz_ ?_
  exact end_1 rfl rfl (Env.le.rfl' _) rfl
 | true =>
 obtain ⟨hfl, hfs⟩ := hf7 rfl
 refine hz_ ?_
 refine WL.call rfl Tryz.call8 rfl rfl (by exact (areDefs_ok (l := l) g2 hfl hfs)) ?_
 rintro _ _ _ - ⟨rfl, rfl, f8, rfl, hf8⟩
 refine hz_ ?_
 cases f8 with
 | false =>
  refine hz_ ?_
  exact end_1 rfl rfl (Env.le.rfl' _) rfl
 | true =>
 refine hz_ ?_
 cases e1 : decide (k < 0) with
 | true =>
  refine hz_ ?_
  exact end_1 rfl rfl (Env.le.rfl' _) rfl
 | false =>
 refine hz_ ?_
 cases e2 : decide ((ds.length : Int) ≤ k) with
 | true =>
  refine hz_ ?_
  exact end_1 rfl rfl (Env.le.rfl' _) rfl
 | false =>
 have hokl := hf8 rfl
 have k1 := of_decide_eq_false e1
 have k2 := of_decide_eq_false e2
 obtain ⟨kn, rfl⟩ : ∃ kn : Nat, k = (kn : Int) := ⟨k.toNat, by omega⟩
 have hkn : kn < ds.length := by omega
 refine hz_ ?_
 refine WL.call rfl Tryz.call9 rfl rfl (by exact (types_ok g2 hokl)) ?_
 rintro _ Γ1 _ hle1 ⟨sc, vp, rfl, hsc, hvp, rfl⟩
 obtain ⟨x1, n1, c1, x2, n2, c2, x3, n3, c3, x4, n4, c4, x5, n5, c5, x6, n6, c6, rfl⟩ := SecR.shapeT hsc
 refine hz_ ?_
 (refine WL.alloc tab_ok rfl rfl ?_; intro b7)
 obtain ⟨p0, pc, pcells, rfl, hpc, hpI, hpL⟩ := hvp
 refine hz_ ?_
 rw [PLI_length]
 rw [PLI_length] at hpc
 obtain ⟨dk, hdk⟩ : ∃ d, ds[kn]? = some d := ⟨_, List.getElem?_eq_getElem hkn⟩
 obtain ⟨pb, po, -, rfl, -, -⟩ := elemA hpI hpL (fun _ _ h => NumC.len h) (w := 1) (by decide) (PLI_get hokl hdk)
 have hwk : IntKind.i64.wrap ((kn : Int) + 1) = (kn : Int) + 1 := w_i64 (by omega) (by omega)
 refine WC.cutM (fun R' Γ' H' => ∃ (R : TSt × Int) (t1a : Option Addr) (t1c : Nat) (t1l : List Value) (u1b u1o u1c : Nat), Γ1.le Γ' ∧ InvT l ds [] R.1 ∧ R.1.told.length ≤ 1000 ∧ 0 < R.1.told.length ∧
   R' = [(1, .slice a2 ds.length cap2), (2, .int .i64 ((kn : Nat) : Int)), (9, .slice t1a R.1.told.length t1c), (11, .slice (some ⟨u1b, u1o, none⟩) 1 u1c)] ∧
   ImA Γ' t1a t1l ∧ LisC (TyC Γ') R.1.told t1l ∧ Γ'.cell u1b (u1o + (0 : Int).toNat * 1) = some (.int .i64 0) ∧ H' = H) ?_ ?_
 ·refine WC.draw 14 (.take 0 (.take 1 (.take 2 (.take 3 (.take 4 (.one 5 (.one 6 (.take 7 (.take 8 (.take 9 (.take 10 (.one 11 (.one 12 (.one 13 .done)))))))))))))) ((b7, cel [.slice x1 n1 c1, .slice x2 n2 c2, .slice x3 n3 c3, .slice x4 n4 c4, .slice x5 n5 c5, .slice x6 n6 c6, nls] 30) :: []) mixed hsb_ (by decide +kernel) ?_
  refine rz_ ?_
  rw [hwk]
  refine rz_ ?_
  refine WL.call rfl Tryz.call12 rfl rfl (by exact (typesAt_ok (hG.mono hle1) hokl hsc (place1 hokl hpI hpL hdk hpc) (fun j hj => by rw [List.mem_singleton.1 hj]; exact hkn) (by simp))) ?_
  rintro _ Γ3 _ hle3 ⟨t1, w1, u1, rfl, ht1, hw1, hu1, rfl, htn⟩
  rw [runT1] at ht1 hw1 htn
  have hIn : InvT l ds [] (numNd l ds 1000 ⟨[], []⟩ (kn, 0)).1 := by
   have := (runT_g hokl [kn] ⟨[], []⟩ inv0 (fun j hj => by rw [List.mem_singleton.1 hj]; exact hkn)).1
   rwa [runT1] at this
  have hpos : 0 < (numNd l ds 1000 ⟨[], []⟩ (kn, 0)).1.told.length := by
   rw [hIn.len]
   have hmn : missN ds [] ≤ 1000 := by
    have : missN ds [] ≤ ds.length * 5 := by
     unfold missN
     rw [← allN_len]
     exact List.length_filter_le _ _
    have := hokl.n1
    omega
   obtain ⟨-, -, q, -, hq⟩ := numNd_g hokl 1000 [] ⟨[], []⟩ (kn, 0) inv0 ⟨dk, hdk, .inl rfl⟩ hmn
   have := (List.getElem?_eq_some_iff.1 hq).1
   omega
  generalize numNd l ds 1000 ⟨[], []⟩ (kn, 0) = rr at ht1 hw1 hIn htn hpos
  have ht1' : Arr Γ3 (TyC Γ3) t1 rr.1.told := ht1
  have hw1' : Arr Γ3 NumC w1 [rr.2] := hw1
  have hu1' : Arr Γ3 NumC u1 [0] := hu1
  obtain ⟨t1a, t1c, t1l, rfl, ht1c, ht1I, ht1L⟩ := ht1'
  obtain ⟨u1b, u1o, u1c, rfl, hu1g⟩ := arr1 hu1'
  refine rz_ ?_
  exact WE.mid ⟨rr, t1a, t1c, t1l, u1b, u1o, u1c, hle3, hIn, htn, hpos, rfl, ht1I, ht1L, hu1g, rfl⟩ sr_ sn_
 clear hsc hpI hpL
 rintro R' Γ5 H2 ⟨rr, t1a, t1c, t1l, u1b, u1o, u1c, hle5, hIn, htn, hpos, rfl, ht1I, ht1L, hu1g, rfl⟩
 have hnz : ((rr.1.told.length : Int) == 0) = false := beq_eq_false_iff_ne.2 (by omega)
 refine hz_ ?_
 rw [hnz]
 refine hz_ ?_
 refine WC.loopE (fun m R' Γ' H' => ∃ i, R' = [(9, .slice t1a rr.1.told.length t1c), (71, .slice t1a rr.1.told.length t1c), (72, .int .i64 (rr.1.told.length : Int)), (73, .int .i64 ((i : Nat) : Int))] ∧ Γ5 = Γ' ∧ H' = H2 ∧ m = rr.1.told.length - i ∧ i ≤ rr.1.told.length)
  ⟨0, rfl, rfl, rfl, rfl, Nat.zero_le _⟩ sr_ sn_ ?_
 rintro m R' Γ' H' ⟨i, rfl, rfl, rfl, rfl, hi⟩
 rcases Nat.lt_or_ge i rr.1.told.length with hlt | hge
 case inr =>
  have ei : i = rr.1.told.length := by omega
  subst ei
  refine hz_ ?_
  refine WC.condF rfl (decide_eq_false (by omega)) ?_
  refine hz_ ?_
  exact end_1 rfl rfl (hle1.trans hle5) rfl
 obtain ⟨t, ht⟩ : ∃ t, rr.1.told[i]? = some t := ⟨_, List.getElem?_eq_getElem hlt⟩
 obtain ⟨o1, k1, c1, rfl, hP1, hc1⟩ := elemA ht1I ht1L (fun _ _ h => TyC.len h) (w := 10) (by decide) ht
 have hwi : IntKind.i64.wrap ((i : Int) + 1) = (i : Int) + 1 := w_i64 (by omega) (by omega)
 obtain ⟨w1, w2, w3, rfl, ⟨_, _, _, rfl, -, -, -⟩, ⟨_, _, _, rfl, -, -, -⟩, ⟨_, _, _, rfl, -, -, -⟩⟩ := hP1
 refine hz_ ?_
 refine WC.condT rfl tr_ ?_
 refine hz_ ?_
 (refine WL.alloc tab_ok rfl rfl ?_; intro b13)
 refine hz_ ?_
 cases eo : decide (t.of < 0) with
 | true =>
  refine hz_ ?_
  exact WE.again ⟨i + 1, rfl, rfl, rfl, rfl, hlt⟩ (by omega) ⟨rfl, rfl, rfl, congrArg (fun z => some (Value.int .i64 z)) hwi, trivial⟩ sn_
 | false =>
 have h0 : 0 ≤ t.of := by have := of_decide_eq_false eo; omega
 obtain ⟨u, hu, hrel⟩ := sizes_rel hokl hIn ht h0
 have hul := (List.getElem?_eq_some_iff.1 hu).1
 have hof : t.of < (rr.1.told.length : Int) := by omega
 obtain ⟨o2, k2, c2, e2, hP2, hc2⟩ := elemA ht1I ht1L (fun _ _ h => TyC.len h) (w := 10) (by decide) hu
 injection e2 with e2; injection e2 with e2 e3
 subst e2 e3
 rw [Int.toNat_natCast] at hc2
 obtain ⟨w1', w2', w3', rfl, ⟨_, _, _, rfl, -, -, -⟩, ⟨_, _, _, rfl, -, -, -⟩, ⟨_, _, _, rfl, -, -, -⟩⟩ := hP2
 refine hz_ ?_
 (refine WL.alloc tab_ok rfl rfl ?_; intro b14)
 refine hz_ ?_
 cases q15 : (u.kind == 15) with
 | true =>
  refine hz_ ?_
  exact WE.again ⟨i + 1, rfl, rfl, rfl, rfl, hlt⟩ (by omega) ⟨rfl, rfl, rfl, congrArg (fun z => some (Value.int .i64 z)) hwi, trivial⟩ sn_
 | false =>
 refine hz_ ?_
 cases q16 : (u.kind == 16) with
 | true =>
  refine hz_ ?_
  exact WE.again ⟨i + 1, rfl, rfl, rfl, rfl, hlt⟩ (by omega) ⟨rfl, rfl, rfl, congrArg (fun z => some (Value.int .i64 z)) hwi, trivial⟩ sn_
 | false =>
 refine hz_ ?_
 cases qi : (u.inc) with
 | true =>
  refine hz_ ?_
  exact WE.again ⟨i + 1, rfl, rfl, rfl, rfl, hlt⟩ (by omega) ⟨rfl, rfl, rfl, congrArg (fun z => some (Value.int .i64 z)) hwi, trivial⟩ sn_
 | false =>
 refine hz_ ?_
 cases qc : (decide (u.count < 0)) with
 | true =>
  refine hz_ ?_
  exact WE.again ⟨i + 1, rfl, rfl, rfl, rfl, hlt⟩ (by omega) ⟨rfl, rfl, rfl, congrArg (fun z => some (Value.int .i64 z)) hwi, trivial⟩ sn_
 | false =>
 refine hz_ ?_
 cases q11 : (u.kind == 11) with
 | true =>
  refine hz_ ?_
  exact WE.again ⟨i + 1, rfl, rfl, rfl, rfl, hlt⟩ (by omega) ⟨rfl, rfl, rfl, congrArg (fun z => some (Value.int .i64 z)) hwi, trivial⟩ sn_
 | false =>
 refine hz_ ?_
 cases q12 : (u.kind == 12) with
 | true =>
  refine hz_ ?_
  exact WE.again ⟨i + 1, rfl, rfl, rfl, rfl, hlt⟩ (by omega) ⟨rfl, rfl, rfl, congrArg (fun z => some (Value.int .i64 z)) hwi, trivial⟩ sn_
 | false =>
 refine hz_ ?_
 cases q13 : (u.kind == 13) with
 | true =>
  refine hz_ ?_
  exact WE.again ⟨i + 1, rfl, rfl, rfl, rfl, hlt⟩ (by omega) ⟨rfl, rfl, rfl, congrArg (fun z => some (Value.int .i64 z)) hwi, trivial⟩ sn_
 | false =>
 refine hz_ ?_
 obtain ⟨r1, r2⟩ := hrel (by simpa using q15) (by simpa using q16) qi (by simpa using q11) (by simpa using q12) (by simpa using q13)
 cases p12 : (t.kind == 12) with
 | true =>
  refine hz_ ?_
  rw [r1 (.inl (by simpa using p12)), bne_self_eq_false]
  refine hz_ ?_
  exact WE.again ⟨i + 1, rfl, rfl, rfl, rfl, hlt⟩ (by omega) ⟨rfl, rfl, rfl, congrArg (fun z => some (Value.int .i64 z)) hwi, trivial⟩ sn_
 | false =>
 refine hz_ ?_
 cases p13 : (t.kind == 13) with
 | true =>
  refine hz_ ?_
  rw [r1 (.inr (by simpa using p13)), bne_self_eq_false]
  refine hz_ ?_
  exact WE.again ⟨i + 1, rfl, rfl, rfl, rfl, hlt⟩ (by omega) ⟨rfl, rfl, rfl, congrArg (fun z => some (Value.int .i64 z)) hwi, trivial⟩ sn_
 | false =>
 refine hz_ ?_
 cases p11 : (t.kind == 11) with
 | false =>
  refine hz_ ?_
  exact WE.again ⟨i + 1, rfl, rfl, rfl, rfl, hlt⟩ (by omega) ⟨rfl, rfl, rfl, congrArg (fun z => some (Value.int .i64 z)) hwi, trivial⟩ sn_
 | true =>
 refine hz_ ?_
 cases pc0 : decide (0 ≤ t.count) with
 | false =>
  refine hz_ ?_
  exact WE.again ⟨i + 1, rfl, rfl, rfl, rfl, hlt⟩ (by omega) ⟨rfl, rfl, rfl, congrArg (fun z => some (Value.int .i64 z)) hwi, trivial⟩ sn_
 | true =>
 refine hz_ ?_
 rw [r2 (by simpa using p11) (of_decide_eq_true pc0), bne_self_eq_false]
 refine hz_ ?_
 exact WE.again ⟨i + 1, rfl, rfl, rfl, rfl, hlt⟩ (by omega) ⟨rfl, rfl, rfl, congrArg (fun z => some (Value.int .i64 z)) hwi, trivial⟩ sn_
open Go Go.Sl Go.ChangeShapes Go.WideShapes Go.ChangeMaps Go.WideElems Go.RowKit
set_option maxRecDepth 100000
theorem fnTypeSizes_lifted (os : Os) (started : os.Started) (HH : Type) (enc : TypeId × Value → HH) :
  ReturnsInHanded {} Tryz.checked os 5 .any (fun w args => (Rows.fnTypeSizesSpec.pre enc Tryz.prog Tryz.f5 [] false w args ∧ laidMetH Tryz.prog laidAll w) ∧ sizedMet enc Tryz.prog Tryz.f5 (OpenSpec.ofChange Rows.fnTypeSizesSpec) false w args)
   (Rows.fnTypeSizesSpec.post enc Tryz.prog Tryz.f5 false true false false) := by
 refine returnsInHanded_of_change_and (C := Tryz.checked) (X := fun w _ => laidMetH Tryz.prog laidAll w) (fun _ _ _ hh h => h.of_heap hh) own started (by kernel_rfl) Tryz.func5
  (ChangeSpec.witness_shaped (enc := enc) (C := Tryz.checked) (os := os) (X := fun w _ => laidMetH Tryz.prog laidAll w) false (World.doorLaid Tryz.prog 400 os) #[.agg #[.int .i64 0, .bool false, .int .i64 0, .bool false, .bool false], .slice none 0 0, .int .i64 0] 8 rfl (World.shaped_of_RefB (by kernel_rfl) (by kernel_rfl)) (by kernel_rfl) (by kernel_rfl) (by kernel_rfl) (door_met os _)) ?_
 intro W base args ds gs before hval hW _ _ hL _
 have hW2 := hW
 obtain ⟨p, q, hA, hV, rfl, hfz, hnd⟩ := hW2
 rw [show Tryz.f5.params.toList = [23, 24, 3] by kernel_rfl] at hA
 have hp : Tryz.f5.params = #[23, 24, 3] := by kernel_rfl
 rw [hp] at hval
 obtain ⟨v0, vs0, d0, ds0, p0, q0, hargs, rfl, rfl, h0, hA0⟩ := trodAll_cons hA
 obtain ⟨v1, vs1, d1, ds1, p1, q1, rfl, rfl, rfl, h1, hA1⟩ := trodAll_cons hA0
 obtain ⟨v2, vs2, d2, ds2, p2, q2, rfl, rfl, rfl, h2, hA2⟩ := trodAll_cons hA1
 obtain ⟨rfl, rfl, rfl⟩ := trodAll_nil hA2
 obtain rfl : args = #[v0, v1, v2] := by cases args; simp_all
 clear hargs
 obtain ⟨l0, rfl⟩ := openLay (hval 0 _ _ rfl rfl) h0
 obtain ⟨xs1, hX1⟩ := openDefs (hval 1 _ _ rfl rfl) h1
 obtain ⟨k2, rfl⟩ := okWide_int Tryz.underlying3 (hval 2 _ _ rfl rfl)
 have hgl := trodVars_len hV
 obtain ⟨g0, g1, g2, rfl⟩ : ∃ g0 g1 g2, gs = [g0, g1, g2] := by
  match gs, hgl with
  | [a, b, c], _ => exact ⟨a, b, c, rfl⟩
 refine (calls_of_spc (fnTypeSizes_ok (glob_of_laid hL) hX1) (fun _ _ _ h => h)).mono ?_
 rintro e W' ⟨rfl, hE, hos, hout⟩
 exact ⟨_, rfl, post_ext laidOut_ok hW hE hos hout (readablePar_ok (by kernel_rfl)) (readableVar_ok (by kernel_rfl)) (show Tryz.f5.resultTypes = #[4] by kernel_rfl) Tryz.underlying4 rfl⟩
theorem fnTypeSizes_holds : Rows.FnTypeSizesSaid :=
 OpenClaim.holds_of_wide 5 Tryz.f5 rfl rfl rfl rfl rfl rfl rfl ⟨rfl, rfl, rfl, rfl, rfl⟩ rfl rfl rfl rfl rfl (by kernel_rfl) Tryz.func5 (by kernel_rfl)
  (of_decide_eq_true (by kernel_rfl)) (by unfold Func.isWrapper; first | (rw [if_pos (by decide +kernel)]; kernel_rfl) | (rw [if_neg (by decide +kernel)]; exact ⟨rfl, rfl⟩))
  (fun os started HH enc _ => fnTypeSizes_lifted os started HH enc)
theorem fnTypeSizes_card : Rows.FnTypeSizesCardSaid :=
 Claim7.holds_tied_plain_at .later [] [.data, .data, .data, .sentinel, .mapped, .mapped, .sentinel] true (true, "5bfc2104a31c676734a0ee88cb3d1252d552a2e3c3f5d78b189574f23f978593") true
  fnTypeSizes_holds (fun _ h => by cases h) (by kernel_rfl) (fun _ h => by cases h) fnTypeSizes_row_tie rfl ⟨rfl, rfl⟩ (by kernel_rfl) rfl
  (fun f fn hf hfn => by
   obtain rfl : f = 5 := Option.some.inj ((show Tryz.prog.funcNamed "loop.example/pub-g03041/laws.FnTypeSizes" = some 5 by kernel_rfl).symm.trans hf) |>.symm
   obtain rfl : fn = Tryz.f5 := (Option.some.inj (Tryz.func5.symm.trans hfn)).symm
   exact ⟨by kernel_rfl, fun j t ht => by
    rw [show Tryz.f5.params = #[23, 24, 3] by kernel_rfl] at ht
    have hm : t ∈ [23, 24, 3] := by simpa using Array.mem_of_getElem? ht
    have hall : ([23, 24, 3].all fun u => !Tryz.prog.wantsStandIn u) = true := by kernel_rfl
    exact (show Tryz.prog.wantsStandIn t = false by simpa using List.all_eq_true.1 hall t hm)⟩)
  (by kernel_rfl)
#print axioms fnTypeSizes_card
end Go.Proofs.YtbgkbgoonjkghaaGreatDoor
