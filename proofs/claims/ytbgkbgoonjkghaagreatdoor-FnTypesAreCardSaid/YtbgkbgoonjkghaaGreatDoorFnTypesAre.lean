/- FnTypesAre: for every layout, list of definitions and order that the statement lets in, the types are told one behind the other, and each that is asked for twice, or is a part of others, is one type, and each argument reads behind the call as it read before. Conditions: those of the given row and card alone (the listed package variables read as the program's text lays them). -/
import Derived.Test.YtbgkbgoonjkghaaGreatDoorA3
import Derived.Test.YtbgkbgoonjkghaaGreatDoorA6
import Derived.Test.YtbgkbgoonjkghaaGreatDoorA15
import Derived.Test.YtbgkbgoonjkghaaGreatDoorA14
import Derived.Test.YtbgkbgoonjkghaaGreatDoorTie
import Derived.Test.YtbgkbgoonjkghaaGreatDoorCards
import Derived.SevenTiedAt
namespace Go.Proofs.YtbgkbgoonjkghaaGreatDoor
open Go Go.Sl
set_option maxRecDepth 10000
set_option maxHeartbeats 40000000
theorem fnTypesAre_ok {Γ : Env} {H : List Blk} {l : Lay} {ds : List Df} {v2 v3 : Value} {os : List Int} (hG : Glob Γ) (h2 : Arr Γ (DfC Γ) v2 ds) (h3 : Arr Γ NumC v3 os) :
  Spc Tryz.prog 6 #[layV l, v2, v3] Γ H (fun v Γ' H' => v = .bool true) := by
 have g2 := h2
 obtain ⟨a2, cap2, cells2, rfl, hcap2, hA2, hL2⟩ := h2
 obtain ⟨oa, oc, ol, rfl, hoc, hoI, hoL⟩ := h3
 refine Spc.body3 Tryz.func6 rfl Tryz.ntmps6 rfl ?_
 refine WC.seq ?_
 refine WC.region ?_
 (refine WL.box rfl spi_ rfl ?_; intro b3)
 refine hz_ ?_
 refine WL.call rfl Tryz.call7 rfl rfl (by exact (zzFits1_ok g2)) ?_
 rintro _ _ _ - ⟨rfl, rfl, f7, rfl, hf7⟩
 refine hz_ ?_
 cases f7 with
 | false =>
  refine hz_ ?_
  exact end_1 rfl rfl (Env.le.rfl' _) rfl
 | true =>
 obtain ⟨hfl, hfs⟩ := hf7 rfl
 refine hz_ ?_
 cases e1 : decide (2147483647 < (os.length : Int)) with
 | true =>
  refine hz_ ?_
  exact end_1 rfl rfl (Env.le.rfl' _) rfl
 | false =>
 refine hz_ ?_
 cases e2 : decide (500 < (os.length : Int)) with
 | true =>
  refine hz_ ?_
  exact end_1 rfl rfl (Env.le.rfl' _) rfl
 | false =>
 have k2 := of_decide_eq_false e2
 refine hz_ ?_
 refine WL.call rfl Tryz.call8 rfl rfl (by exact (areDefs_ok (l := l) g2 hfl hfs)) ?_
 rintro _ _ _ - ⟨rfl, rfl, f8, rfl, hf8⟩
 refine hz_ ?_
 cases f8 with
 | false =>
  refine hz_ ?_
  exact end_1 rfl rfl (Env.le.rfl' _) rfl
 | true =>
 have hokl := hf8 rfl
 refine hz_ ?_
 refine WL.call rfl Tryz.call9 rfl rfl (by exact (types_ok g2 hokl)) ?_
 rintro _ Γ1 _ hle1 ⟨sc, vp, rfl, hsc, hvp, rfl⟩
 obtain ⟨x1, n1, c1, x2, n2, c2, x3, n3, c3, x4, n4, c4, x5, n5, c5, x6, n6, c6, rfl⟩ := SecR.shapeT hsc
 refine hz_ ?_
 (refine WL.alloc tab_ok rfl rfl ?_; intro b7)
 have hn1 := hokl.n1
 have hn0 := hokl.n0
 refine hz_ ?_
 refine WL.call rfl Tryz.call10 rfl rfl (by exact (tell_ok rfl)) ?_
 rintro _ _ _ - ⟨rfl, pt, pq, rfl, rfl⟩
 obtain ⟨p0, pc, pcells, rfl, hpc, hpI, hpL⟩ := hvp
 rw [PLI_length] at hpc
 have hX1 := g2.mono hle1 fun _ _ h => h.mono hle1
 have hR0 := tlR0 (Γ := Γ1) hn1
 refine hz_ ?_
 rw [PLI_length]
 obtain ⟨dz, hdz⟩ : ∃ d, ds[0]? = some d := ⟨_, List.getElem?_eq_getElem hn0⟩
 obtain ⟨pb, po, -, rfl, -, -⟩ := elemA hpI hpL (fun _ _ h => NumC.len h) (w := 1) (by decide) (PLI_get hokl hdz)
 refine hz_ ?_
 (refine WL.lit tab_ok rfl rfl rfl rfl rfl rfl rfl spi_ rfl ?_; intro b10)
 refine hz_ ?_
 (refine WL.lit tab_ok rfl rfl rfl rfl rfl rfl rfl spi_ rfl ?_; intro b11)
 refine hz_ ?_
 refine WC.loopE (fun m R' Γ' H' => ∃ i js v10 c10 H10 v11 c11 H11 T tv kv Ht Hk ge gc, R' = [(1, .slice a2 ds.length cap2), (7, .pointer (some ⟨b7, 0, none⟩)), (8, .slice (some ⟨pb, po, none⟩) ds.length pc), (9, .pointer (some ⟨pt, 0, none⟩)), (10, v10), (11, v11), (48, .slice oa os.length oc), (49, .int .i64 (os.length : Int)), (50, .int .i64 ((i : Nat) : Int))] ∧ m = os.length - i ∧ i ≤ os.length ∧ Γ1.le Γ' ∧
   js.length = i ∧ (∀ j ∈ js, j < ds.length) ∧ Ow 1 v10 i c10 H10 ∧ LisC NumC (js.map fun j => ((nodO l ds (rtI ds j) : Nat) : Int)) c10 ∧ Ow 1 v11 i c11 H11 ∧ LisC NumC (runT l ds 1000 ⟨[], []⟩ js).2 c11 ∧ TlR Γ' ds (runT l ds 1000 ⟨[], []⟩ js).1 T tv kv Ht Hk ge ∧
   H' = TlH l (.slice a2 ds.length cap2) pt pq tv kv ge gc Ht Hk (H10 ++ (H11 ++ ((b7, cel [.slice x1 n1 c1, .slice x2 n2 c2, .slice x3 n3 c3, .slice x4 n4 c4, .slice x5 n5 c5, .slice x6 n6 c6, nls] 30) :: H))))
  ⟨0, [], .slice (some ⟨b10, 0, none⟩) 0 0, [], [(b10, cel [] 3)], .slice (some ⟨b11, 0, none⟩) 0 0, [], [(b11, cel [] 3)], [], nilS, nilS, [], [], [], 0, rfl, rfl, Nat.zero_le _, Env.le.rfl' _, rfl, fun _ h => (by cases h), Ow.lit (s := 1) (k := 0) rfl, (show LisC NumC (List.map (fun j : Nat => ((nodO l ds (rtI ds j) : Nat) : Int)) []) [] from rfl), Ow.lit (s := 1) (k := 0) rfl, (show LisC NumC (runT l ds 1000 ⟨[], []⟩ []).2 [] from rfl), hR0, rfl⟩ sr_ sn_ ?_
 rintro m R' Γ2 H' ⟨i, js, v10, c10, H10, v11, c11, H11, T, tv, kv, Ht, Hk, ge, gc, rfl, rfl, hil, hle2, hjl, hjs, how10, hL10, how11, hL11, hT, rfl⟩
 obtain ⟨a10, k10, rfl⟩ := Ow.shape how10
 obtain ⟨a11, k11, rfl⟩ := Ow.shape how11
 have hX2 := hX1.mono hle2 fun _ _ h => h.mono hle2
 have hwi : IntKind.i64.wrap (((i : Nat) : Int) + 1) = ((i + 1 : Nat) : Int) := by rw [w_i64 (by omega) (by omega)]; omega
 rcases Nat.lt_or_ge i os.length with hlt | hge
 case inl =>
  obtain ⟨z, hz⟩ : ∃ z, os[i]? = some z := ⟨_, List.getElem?_eq_getElem hlt⟩
  obtain ⟨b1, o1, d1, rfl, hP1, hc1⟩ := elemA (hoI.mono (hle1.trans hle2)) hoL (fun _ _ h => NumC.len h) (w := 1) (by decide) hz
  cases hP1
  have hq1 := hc1.1
  refine hz_ ?_
  refine WC.condT rfl tr_ ?_
  refine hz_ ?_
  cases e3 : decide (z < 0) with
  | true =>
   refine hz_ ?_
   exact end_1 rfl rfl (hle1.trans hle2) rfl
  | false =>
  refine hz_ ?_
  cases e4 : decide ((ds.length : Int) ≤ z) with
  | true =>
   refine hz_ ?_
   exact end_1 rfl rfl (hle1.trans hle2) rfl
  | false =>
  have k3 := of_decide_eq_false e3
  have k4 := of_decide_eq_false e4
  obtain ⟨j, rfl⟩ : ∃ j : Nat, z = (j : Int) := ⟨z.toNat, by omega⟩
  have hjd : j < ds.length := by omega
  obtain ⟨d, hd⟩ : ∃ d, ds[j]? = some d := ⟨_, List.getElem?_eq_getElem hjd⟩
  obtain ⟨pb', po', d2, e, hP2, hc2⟩ := elemA hpI hpL (fun _ _ h => NumC.len h) (w := 1) (by decide) (PLI_get hokl hd)
  injection e with e; injection e with e5 e6
  subst e5 e6
  cases hP2
  have hq2 := hle2.cell hc2.1
  refine hz_ ?_
  (refine WL.lit tab_ok rfl rfl rfl rfl rfl rfl rfl spi_ rfl ?_; intro bq)
  refine hz_ ?_
  refine WL.append tab_ok rfl rfl rfl rfl rfl rfl rfl rfl how10 tk_ ((Ow.lit (s := 1) (b := bq) (k := 1) (l := [.int .i64 ((nodO l ds (rtI ds j) : Nat) : Int)]) (T := 3) rfl).src tab_ok rfl t1_ (by simp [Value.oneCell'])) (by omega) (by omega) (fun v5 Hs5 how5 => ?_)
  obtain ⟨a5, k5, rfl⟩ := Ow.shape how5
  refine hz_ ?_
  refine WL.re' (H' := TlH l (.slice a2 ds.length cap2) pt pq tv kv ge gc Ht Hk (Hs5 ++ (H11 ++ ((b7, cel [.slice x1 n1 c1, .slice x2 n2 c2, .slice x3 n3 c3, .slice x4 n4 c4, .slice x5 n5 c5, .slice x6 n6 c6, nls] 30) :: H)))) sn_ ?_
  refine WL.call rfl Tryz.call11 rfl rfl (by exact ((tl_all hokl hX2 1000).1 (Env.le.rfl' _) hT (n := ((j : Nat) : Int)) (by omega) (by have := hT.few; omega))) ?_
  rintro _ Γ3 _ hle3 ⟨T3, t7, t8, Ht3, Hk3, ge3, gc3, rfl, hT3, rfl⟩
  rw [numOf_nat] at hT3 ⊢
  refine hz_ ?_
  (refine WL.lit tab_ok rfl rfl rfl rfl rfl rfl rfl spi_ rfl ?_; intro bp)
  refine hz_ ?_
  refine WL.append tab_ok rfl rfl rfl rfl rfl rfl rfl rfl how11 tk_ ((Ow.lit (s := 1) (b := bp) (k := 1) (l := [.int .i64 (numNd l ds 1000 (runT l ds 1000 ⟨[], []⟩ js).1 (j, 0)).2]) (T := 3) rfl).src tab_ok rfl t1_ (by simp [Value.oneCell'])) (by omega) (by omega) (fun v6 Hs6 how6 => ?_)
  obtain ⟨a6, k6, rfl⟩ := Ow.shape how6
  refine hz_ ?_
  have hrn := runT_snoc l ds 1000 j js ⟨[], []⟩
  exact WE.again ⟨i + 1, js ++ [j], _, _, Hs5, _, _, Hs6, T3, t7, t8, Ht3, Hk3, ge3, gc3, rfl, rfl, hlt, hle2.trans hle3, by rw [List.length_append, hjl]; rfl, fun q hq => by
   rcases List.mem_append.1 hq with hq | hq
   ·exact hjs q hq
   ·rw [List.mem_singleton.1 hq]; exact hjd, how5, by rw [List.map_append]; exact LisC.append hL10 (LisC.one rfl), how6, by rw [hrn]; exact LisC.append hL11 (LisC.one rfl), by rw [hrn]; exact hT3, rfl⟩ (by omega) ⟨rfl, rfl, rfl, rfl, rfl, rfl, rfl, rfl, congrArg (fun z => some (Value.int .i64 z)) hwi, trivial⟩ sn_
 have ei : i = os.length := by omega
 subst ei
 refine hz_ ?_
 refine WC.condF rfl (decide_eq_false (by omega)) ?_
 refine hz_ ?_
 refine WL.keep how10 tk_ (fun Γ3 hle3 m10 => ?_)
 have hat : Arr Γ3 NumC (.slice a10 os.length k10) (js.map fun j => ((nodO l ds (rtI ds j) : Nat) : Int)) := Im.arr (by rw [List.length_map, hjl]; exact m10) hL10
 have hle13 := hle2.trans hle3
 have hT3 := hT.mono hle3
 refine hz_ ?_
 refine WL.call rfl Tryz.call12 rfl rfl (by exact (typesAt_ok (hG.mono (hle1.trans hle13)) hokl (SecR.mono' hle13 hsc) hat hjs (by omega))) ?_
 rintro _ Γ4 _ hle4 ⟨t1, w1, u1, rfl, ht1, hw1, hu1, rfl, htn⟩
 have hIn := (runT_g hokl js ⟨[], []⟩ inv0 hjs).1
 have hrl := runT_len l ds 1000 js ⟨[], []⟩
 generalize runT l ds 1000 ⟨[], []⟩ js = rr at hT3 ht1 hw1 hIn htn hL11 hrl
 have hle14 := hle13.trans hle4
 refine hz_ ?_
 refine WC.draw 11 (.take 0 (.take 1 (.one 2 (.one 3 (.take 4 (.take 5 (.take 6 (.take 7 (.one 8 (.one 9 (.one 10 .done))))))))))) ((b7, cel [.slice x1 n1 c1, .slice x2 n2 c2, .slice x3 n3 c3, .slice x4 n4 c4, .slice x5 n5 c5, .slice x6 n6 c6, nls] 30) :: []) mixed hsb_ (by decide +kernel) ?_
 refine rz_ ?_
 have hp1 : Arr Γ4 NumC (.slice (some ⟨pb, po, none⟩) (Int.toNat 1) pc) ([0].map fun j => ((nodO l ds (rtI ds j) : Nat) : Int)) := by
  have h := place1 (Γ := Γ4) (kn := 0) hokl (hpI.mono hle14) hpL hdz hpc
  have e : saddr (some ⟨pb, po, none⟩) pc ((0 : Nat) : Int).toNat 1 = some ⟨pb, po, none⟩ := by
   unfold saddr
   rw [if_neg (by omega)]
   simp [Addr.add]
  rw [e] at h
  exact h
 refine WL.call rfl Tryz.call12 rfl rfl (by exact (typesAt_ok (js := [0]) (hG.mono (hle1.trans hle14)) hokl (SecR.mono' hle14 hsc) hp1 (fun j hj => by rw [List.mem_singleton.1 hj]; exact hn0) (by simp))) ?_
 rintro _ Γ5 _ hle5 ⟨t2, w2, u2, rfl, -, -, hu2, rfl, -⟩
 have hu2' : Arr Γ5 NumC u2 [0] := hu2
 refine rz_ ?_
 obtain ⟨u2b, u2o, u2c, rfl, hu2g⟩ := arr1 hu2'
 refine hz_ ?_
 have hT5 := hT3.mono (hle4.trans hle5)
 obtain ⟨tc, how7, hL7⟩ := hT5.told
 obtain ⟨kc, how8, hL8⟩ := hT5.known
 refine WL.keep how7 tk_ (fun Γ6 k6 m6 => ?_)
 refine WL.keep how8 tk_ (fun Γ7 k7 m7 => ?_)
 refine WL.keep how11 tk_ (fun Γ8 k8 m8 => ?_)
 refine WL.freeze (b := pt) pk_ (fun k9 => ?_)
 have hpt : ((Γ8.add pt (cel [.int .i64 l.vers, .bool l.wide, .int .i64 l.size, .bool l.big, .bool l.far, .slice a2 ds.length cap2, .map (some pq), tv, kv] 70)).imm pt) = some (cel [.int .i64 l.vers, .bool l.wide, .int .i64 l.size, .bool l.big, .bool l.far, .slice a2 ds.length cap2, .map (some pq), tv, kv] 70) := by simp [Env.add]
 generalize Γ8.add pt (cel [.int .i64 l.vers, .bool l.wide, .int .i64 l.size, .bool l.big, .bool l.far, .slice a2 ds.length cap2, .map (some pq), tv, kv] 70) = Γ9 at k9 hpt ⊢
 have hle59 := k6.trans (k7.trans (k8.trans k9))
 have hle49 := hle5.trans hle59
 have a7 : Arr Γ9 (TyC Γ9) tv (T.map Prod.fst) := Im.arr (by rw [List.length_map]; exact m6.mono (k7.trans (k8.trans k9))) (hL7.imp fun _ _ h => h.mono hle59)
 have a8 : Arr Γ9 BolC kv (T.map Prod.snd) := Im.arr (by rw [List.length_map]; exact m7.mono (k8.trans k9)) hL8
 have a9 : Arr Γ9 NumC (.slice a11 os.length k11) rr.2 := Im.arr (by rw [hrl, hjl]; exact m8.mono k9) hL11
 have a10 : Arr Γ9 NumC u1 (rr.2.map fun _ => 0) := by
  have e : (rr.2.map fun _ => (0 : Int)) = js.map fun _ => (0 : Int) := by
   rw [List.map_const', List.map_const', hrl]
  rw [e]
  exact hu1.mono hle49 fun _ _ h => h
 refine hz_ ?_
 refine WL.call rfl Tryz.call13 rfl rfl (by exact (heardTypes_ok (S := rr.1) (T := T) (ns := rr.2) hIn htn (by omega) (ht1.mono hle49 fun _ _ h => TyC.mono hle49 h) (hw1.mono hle49 fun _ _ h => h) a10 a9 hT5.lenT hT5.rel (cell_of hpt rfl) (cell_of hpt rfl) a7 a8)) ?_
 rintro _ _ _ - ⟨rfl, rfl, rfl⟩
 refine hz_ ?_
 exact end_1 rfl rfl (hle1.trans (hle14.trans hle49)) rfl
open Go Go.Sl Go.ChangeShapes Go.WideShapes Go.ChangeMaps Go.WideElems Go.RowKit
set_option maxRecDepth 100000
theorem fnTypesAre_lifted (os : Os) (started : os.Started) (HH : Type) (enc : TypeId × Value → HH) :
  ReturnsInHanded {} Tryz.checked os 6 .any (fun w args => (Rows.fnTypesAreSpec.pre enc Tryz.prog Tryz.f6 [] false w args ∧ laidMetH Tryz.prog laidAll w) ∧ sizedMet enc Tryz.prog Tryz.f6 (OpenSpec.ofChange Rows.fnTypesAreSpec) false w args)
   (Rows.fnTypesAreSpec.post enc Tryz.prog Tryz.f6 false true false false) := by
 refine returnsInHanded_of_change_and (C := Tryz.checked) (X := fun w _ => laidMetH Tryz.prog laidAll w) (fun _ _ _ hh h => h.of_heap hh) own started (by kernel_rfl) Tryz.func6
  (ChangeSpec.witness_shaped (enc := enc) (C := Tryz.checked) (os := os) (X := fun w _ => laidMetH Tryz.prog laidAll w) false (World.doorLaid Tryz.prog 400 os) #[.agg #[.int .i64 0, .bool false, .int .i64 0, .bool false, .bool false], .slice none 0 0, .slice none 0 0] 8 rfl (World.shaped_of_RefB (by kernel_rfl) (by kernel_rfl)) (by kernel_rfl) (by kernel_rfl) (by kernel_rfl) (door_met os _)) ?_
 intro W base args ds gs before hval hW _ _ hL _
 have hW2 := hW
 obtain ⟨p, q, hA, hV, rfl, hfz, hnd⟩ := hW2
 rw [show Tryz.f6.params.toList = [23, 24, 31] by kernel_rfl] at hA
 have hp : Tryz.f6.params = #[23, 24, 31] := by kernel_rfl
 rw [hp] at hval
 obtain ⟨v0, vs0, d0, ds0, p0, q0, hargs, rfl, rfl, h0, hA0⟩ := trodAll_cons hA
 obtain ⟨v1, vs1, d1, ds1, p1, q1, rfl, rfl, rfl, h1, hA1⟩ := trodAll_cons hA0
 obtain ⟨v2, vs2, d2, ds2, p2, q2, rfl, rfl, rfl, h2, hA2⟩ := trodAll_cons hA1
 obtain ⟨rfl, rfl, rfl⟩ := trodAll_nil hA2
 obtain rfl : args = #[v0, v1, v2] := by cases args; simp_all
 clear hargs
 obtain ⟨l0, rfl⟩ := openLay (hval 0 _ _ rfl rfl) h0
 obtain ⟨xs1, hX1⟩ := openDefs (hval 1 _ _ rfl rfl) h1
 obtain ⟨xs2, hX2⟩ := openInts (hval 2 _ _ rfl rfl) h2
 have hgl := trodVars_len hV
 obtain ⟨g0, g1, g2, rfl⟩ : ∃ g0 g1 g2, gs = [g0, g1, g2] := by
  match gs, hgl with
  | [a, b, c], _ => exact ⟨a, b, c, rfl⟩
 refine (calls_of_spc (fnTypesAre_ok (glob_of_laid hL) hX1 hX2) (fun _ _ _ h => h)).mono ?_
 rintro e W' ⟨rfl, hE, hos, hout⟩
 exact ⟨_, rfl, post_ext laidOut_ok hW hE hos hout (readablePar_ok (by kernel_rfl)) (readableVar_ok (by kernel_rfl)) (show Tryz.f6.resultTypes = #[4] by kernel_rfl) Tryz.underlying4 rfl⟩
theorem fnTypesAre_holds : Rows.FnTypesAreSaid :=
 OpenClaim.holds_of_wide 6 Tryz.f6 rfl rfl rfl rfl rfl rfl rfl ⟨rfl, rfl, rfl, rfl, rfl⟩ rfl rfl rfl rfl rfl (by kernel_rfl) Tryz.func6 (by kernel_rfl)
  (of_decide_eq_true (by kernel_rfl)) (by unfold Func.isWrapper; first | (rw [if_pos (by decide +kernel)]; kernel_rfl) | (rw [if_neg (by decide +kernel)]; exact ⟨rfl, rfl⟩))
  (fun os started HH enc _ => fnTypesAre_lifted os started HH enc)
theorem fnTypesAre_card : Rows.FnTypesAreCardSaid :=
 Claim7.holds_tied_plain_at .later [] [.data, .data, .data, .sentinel, .mapped, .mapped, .sentinel] true (true, "5bfc2104a31c676734a0ee88cb3d1252d552a2e3c3f5d78b189574f23f978593") true
  fnTypesAre_holds (fun _ h => by cases h) (by kernel_rfl) (fun _ h => by cases h) fnTypesAre_row_tie rfl ⟨rfl, rfl⟩ (by kernel_rfl) rfl
  (fun f fn hf hfn => by
   obtain rfl : f = 6 := Option.some.inj ((show Tryz.prog.funcNamed "loop.example/pub-g03041/laws.FnTypesAre" = some 6 by kernel_rfl).symm.trans hf) |>.symm
   obtain rfl : fn = Tryz.f6 := (Option.some.inj (Tryz.func6.symm.trans hfn)).symm
   exact ⟨by kernel_rfl, fun j t ht => by
    rw [show Tryz.f6.params = #[23, 24, 31] by kernel_rfl] at ht
    have hm : t ∈ [23, 24, 31] := by simpa using Array.mem_of_getElem? ht
    have hall : ([23, 24, 31].all fun u => !Tryz.prog.wantsStandIn u) = true := by kernel_rfl
    exact (show Tryz.prog.wantsStandIn t = false by simpa using List.all_eq_true.1 hall t hm)⟩)
  (by kernel_rfl)
#print axioms fnTypesAre_card
end Go.Proofs.YtbgkbgoonjkghaaGreatDoor
