/- Parts of the proof: Kh Ki Kk Ra Rb Rc Re Rk La Lb. -/
import Derived.Test.YtbgkbgoonjkghaaGreatDoorA3
import Derived.Test.YtbgkbgoonjkghaaGreatDoorA6
import Derived.Test.YtbgkbgoonjkghaaGreatDoorA13
import Derived.Test.YtbgkbgoonjkghaaGreatDoorA12
import Derived.ChangeKeysEq
import Derived.Laws.StructEq
import Derived.Test.YtbgkbgoonjkghaaGreatDoorA9
import Derived.Test.YtbgkbgoonjkghaaGreatDoorA5
import Derived.ProofKit
import Derived.WideKeyArgs
import Derived.Deep.Slices
import Derived.Lib.SmallJoins
import Derived.Test.YtbgkbgoonjkghaaGreatDoorRows
import Derived.LaidMore
import Derived.OpenShut
import Derived.Stop.Joined
import Derived.MakeChecks
import Derived.Test.YtbgkbgoonjkghaaGreatDoorA8
namespace Go.Proofs.YtbgkbgoonjkghaaGreatDoor
open Go Go.Sl
set_option maxRecDepth 10000
set_option maxHeartbeats 40000000
section
variable {Γ : Env} {l : Lay} {ds : List Df}
theorem SeenL_le {B B' : BM} (h : B.le B') : ∀ (L : List Nd) (i : Nat), (∀ y ∈ L, ∃ c, B y.1 y.2 = some c) → SeenL ds B' L i = SeenL ds B L i
 | [], _, _ => rfl
 | y :: L, i, hh => by
  obtain ⟨c, hc⟩ := hh y (List.mem_cons_self ..)
  rw [SeenL, SeenL, hc, h _ _ _ hc, SeenL_le h L (i + 1) fun y hy => hh y (List.mem_cons_of_mem _ hy)]
theorem GR.monoB {B B' : BM} (hB : B.le B') {S : TSt} {tv : Value} {Ht : List Blk} {ge : List MapEntry} (h : GR Γ ds B S tv Ht ge) : GR Γ ds B' S tv Ht ge := by
 obtain ⟨h1, h2, h3, h4, h5⟩ := h
 refine ⟨h1, fun y hy => ?_, by rw [SeenL_le hB _ _ h2]; exact h3, h4, h5⟩
 obtain ⟨c, hc⟩ := h2 y hy
 exact ⟨c, hB _ _ _ hc⟩
structure TKs (l : Lay) (ds : List Df) : Prop where
 ok : ∀ p ∈ pusU l.big 0 0 0 0 [TU l ds], OkPU (abT [TU l ds]) p
 ab : (abT [TU l ds]).length < 2147483648
 inf : (pusB l.big (pusU l.big 0 0 0 0 [TU l ds])).length < 2147483648
 str : (strT [TU l ds]).length < 2147483648
 lin : (linT [TU l ds]).length < 2147483648
theorem tks (hok : OkDs l ds) : TKs l ds := by
 have hU : ∀ u ∈ [TU l ds], UniK u := fun u hu => by rw [List.mem_singleton.1 hu]; exact TU_K hok
 have hw := uniT_w hok (pl := PLI l ds) PLI_length (PLI_sm hok)
 have hwe : sumBy wU [TU l ds] = wU (uniT l ds (PLI l ds)) := by simp [sumBy, TU]
 have w1 := abT_w hU
 have w2 := uniT_len hok (pl := PLI l ds) PLI_length (PLI_sm hok)
 have w3 := strT_w [TU l ds]
 have w4 := linT_w [TU l ds]
 refine ⟨fun p hp => ?_, by simp only [List.length_cons, List.length_nil] at w1; omega, by rw [pusB_one]; exact Nat.lt_of_le_of_lt w2 (by decide), by omega, by omega⟩
 have := pusU_ok (big := l.big) (base := 0) (so := 0) (lo := 0) (pre := []) (post := []) hU p hp
 simpa using this
theorem typesAt_ok {H : List Blk} {v vp : Value} {js : List Nat} (hG : Glob Γ) (hok : OkDs l ds) (hv : SecR Γ v (abT [TU l ds]) (pusB l.big (pusU l.big 0 0 0 0 [TU l ds])) [] [] (strT [TU l ds]) (linT [TU l ds]) none)
  (hp : Arr Γ NumC vp (js.map fun j => ((nodO l ds (rtI ds j) : Nat) : Int))) (hj : ∀ j ∈ js, j < ds.length) (hjn : js.length ≤ 1000000) :
  Spc Tryz.prog 12 #[v, vp] Γ H (fun r Γ' H' => ∃ tv vn vc, r = .tuple #[tv, vn, vc] ∧ Arr Γ' (TyC Γ') tv (runT l ds 1000 ⟨[], []⟩ js).1.told ∧ Arr Γ' NumC vn (runT l ds 1000 ⟨[], []⟩ js).2 ∧ Arr Γ' NumC vc (js.map fun _ => 0) ∧ H' = H ∧ (runT l ds 1000 ⟨[], []⟩ js).1.told.length ≤ 1000) := by
 have hk := tks hok
 have hv' := hv
 obtain ⟨vA, vI, vL, vR, vS, vD, rfl, -⟩ := hv'.ex
 obtain ⟨ap, capp, cellsp, rfl, hcapp, hIp, hLp⟩ := hp
 rw [List.length_map] at hcapp
 rw [List.length_map]
 refine Spc.body2 Tryz.func12 rfl Tryz.ntmps12 rfl ?_
 refine WC.seq ?_
 refine WC.region ?_
 (refine WL.box rfl spi_ rfl ?_; intro b2)
 refine hz_ ?_
 refine WL.call rfl Tryz.call26 rfl rfl (by exact (openT_ok hG hv hk.ok (List.pairwise_singleton _ _) hk.ab hk.inf (by show 1 < 2147483648; decide) (by show 0 < 1; decide) (by decide) (by decide) hk.str hk.lin (fun r h => by cases h))) ?_
 rintro _ Γ1 _ hle1 ⟨pd, pu, rc, r2, r3, cs, dA, dI, dL, dR, dS, vl, vr, rfl, hcs, hR, hS, hl, hr, rfl⟩
 refine hz_ ?_
 (refine WL.makeMap rfl ?_; intro pq)
 refine hz_ ?_
 (refine WL.box rfl spi_ rfl ?_; intro pg)
 refine hz_ ?_
 refine WC.freeze (b := pd) pk_ (fun hle2 => ?_)
 have hpd : (Γ1.add pd (cel (dcs dA dI dL dR dS nls vl nls vr rc r2 r3 l.big l.big (.slice (some ⟨pu, 0, none⟩) (pusU l.big 0 0 0 0 [TU l ds]).length (pusU l.big 0 0 0 0 [TU l ds]).length)) 133)).imm pd = some (cel (dcs dA dI dL dR dS nls vl nls vr rc r2 r3 l.big l.big (.slice (some ⟨pu, 0, none⟩) (pusU l.big 0 0 0 0 [TU l ds]).length (pusU l.big 0 0 0 0 [TU l ds]).length)) 133) := by simp [Env.add]
 generalize Γ1.add pd (cel (dcs dA dI dL dR dS nls vl nls vr rc r2 r3 l.big l.big (.slice (some ⟨pu, 0, none⟩) (pusU l.big 0 0 0 0 [TU l ds]).length (pusU l.big 0 0 0 0 [TU l ds]).length)) 133) = Γ2 at hle2 hpd ⊢
 have hle12 := hle1.trans hle2
 have tx : TX Γ2 pd pu l ds := ⟨hG.mono hle12, hok, cell_of hpd rfl, ⟨dS, cell_of hpd rfl, hS.mono hle2⟩, ⟨vl, cell_of hpd rfl, hl.mono hle2⟩, cell_of hpd rfl, hk.inf, hk.str, hk.lin⟩
 have h15 : Γ2.cell pd 15 = some (.map (some r2)) := cell_of hpd rfl
 have ux : UX Γ2 l ds (cel cs 279) := ⟨cs, hcs.mono hle2, rfl⟩
 have ts0 : TS Γ2 l ds [] (fun _ _ => none) [] [] := ⟨⟨fun e he => (by cases he), fun j d hj => rfl⟩, fun _ _ _ h => (by cases h), fun _ _ _ h => (by cases h), fun _ _ _ _ _ h => (by cases h), fun _ _ _ _ h => (by cases h), fun _ _ _ h => (by cases h), fun _ h => (by cases h), by
  have : missL (fun _ _ => none) ds.length ≤ ds.length := by
   unfold missL
   exact Nat.le_trans (List.length_filter_le _ _) (by rw [List.length_range]; exact Nat.le_refl _)
  simp only [List.length_nil]; omega⟩
 have hn1 := hok.n1
 have gr0 : GR Γ2 ds (fun _ _ => none) ⟨[], []⟩ nilS [] [] := ⟨rfl, fun _ h => (by cases h), rfl, ⟨[], Ow.nil, rfl⟩, by
  have : missN ds [] ≤ ds.length * 5 := by
   unfold missN
   rw [← allN_len]
   exact List.length_filter_le _ _
  simp only [List.length_nil]; omega⟩
 refine WC.loopE (fun m R' Γ' H' => ∃ i v10 v11 c10 c11 H10 H11 ou' es' c' B' tv' Ht' ge' gc', R' = [(7, .pointer (some ⟨pd, 0, none⟩)), (9, .pointer (some ⟨pg, 0, none⟩)), (10, v10), (11, v11), (29, .slice ap js.length capp), (30, .int .i64 (js.length : Int)), (31, .int .i64 ((i : Nat) : Int))] ∧ m = js.length - i ∧ i ≤ js.length ∧ Γ2.le Γ' ∧
   Ow 1 v10 i c10 H10 ∧ LisC NumC (runT l ds 1000 ⟨[], []⟩ (js.take i)).2 c10 ∧ Ow 1 v11 i c11 H11 ∧ LisC NumC ((js.take i).map fun _ => (0 : Int)) c11 ∧ UX Γ' l ds ou' ∧ TS Γ' l ds [] B' es' [] ∧ GR Γ' ds B' (runT l ds 1000 ⟨[], []⟩ (js.take i)).1 tv' Ht' ge' ∧
   H' = (pu, ou') :: (r2, .map es'.toArray c') :: GHp pg pq tv' ge' gc' Ht' (H10 ++ (H11 ++ H)))
  ⟨0, nilS, nilS, [], [], [], [], _, [], 0, _, nilS, [], [], 0, rfl, rfl, Nat.zero_le _, Env.le.rfl' _, Ow.nil, rfl, Ow.nil, rfl, ux, ts0, gr0, rfl⟩ sr_ sn_ ?_
 rintro m R' Γ3 H' ⟨i, v10, v11, c10, c11, H10, H11, ou3, es3, c3, B3, tv3, Ht3, ge3, gc3, rfl, rfl, hil, hle3, how10, hL10, how11, hL11, hu3, hS3, hG3, rfl⟩
 obtain ⟨a10, k10, rfl⟩ := Ow.shape how10
 obtain ⟨a11, k11, rfl⟩ := Ow.shape how11
 rcases Nat.lt_or_ge i js.length with hlt | hge
 case inr =>
  have ei : i = js.length := by omega
  subst ei
  rw [List.take_length] at hL10 hL11 hG3
  obtain ⟨cells3, how3, hL3⟩ := hG3.told
  obtain ⟨a3, k3, rfl⟩ := Ow.shape how3
  refine hz_ ?_
  refine WC.condF rfl (decide_eq_false (by omega)) ?_
  refine hz_ ?_
  refine WE.keep how3 tk_ (fun Γ4 k4 m4 => ?_)
  refine WE.keep how10 tk_ (fun Γ5 k5 m5 => ?_)
  refine WE.keep how11 tk_ (fun Γ6 k6 m6 => ?_)
  refine WE.re (H2 := H) sn_ ?_
  have hr2 := runT_len l ds 1000 js ⟨[], []⟩
  refine end_3 rfl rfl rfl rfl (hle12.trans (hle3.trans (k4.trans (k5.trans k6)))) ⟨_, _, _, rfl, Im.arr (m4.mono (k5.trans k6)) (hL3.imp fun _ _ h => h.mono (k4.trans (k5.trans k6))), Im.arr (by rw [hr2]; exact m5.mono k6) hL10, Im.arr (by rw [List.length_map]; exact m6) hL11, rfl, by have h1 := hG3.few; have h2 := hG3.len; omega⟩
 obtain ⟨j, hji⟩ : ∃ j, js[i]? = some j := ⟨_, List.getElem?_eq_getElem hlt⟩
 have hjm := List.mem_of_getElem? hji
 have hjl := hj j hjm
 obtain ⟨d, hd⟩ : ∃ d, ds[j]? = some d := ⟨_, List.getElem?_eq_getElem hjl⟩
 have hxl : js.take (i + 1) = js.take i ++ [j] := by rw [List.take_add_one, hji]; rfl
 obtain ⟨bb, oo, cc, rfl, hP, hc⟩ := elemA hIp hLp (fun _ _ h => NumC.len h) (w := 1) (by decide) (i := i) (x := ((nodO l ds (rtI ds j) : Nat) : Int)) (by rw [List.getElem?_map, hji]; rfl)
 cases hP
 have hle03 := hle12.trans hle3
 have hc0 := hle03.cell hc.1
 have hsm : nodO l ds (rtI ds j) < 2147483648 := by
  have := PLI_sm hok _ (List.mem_of_getElem? (PLI_get hok hd))
  omega
 have hwi : IntKind.i64.wrap (((i : Nat) : Int) + 1) = ((i + 1 : Nat) : Int) := by rw [w_i64 (by omega) (by omega)]; omega
 refine hz_ ?_
 refine WC.condT rfl tr_ ?_
 refine hz_ ?_
 rw [show IntKind.u32.wrap ((nodO l ds (rtI ds j) : Nat) : Int) = ((nodO l ds (rtI ds j) : Nat) : Int) from w_u32 (by omega) (by omega)]
 refine WL.call rfl Tryz.call28 rfl rfl (by exact (typeD_ok (tx.mono hle3) hu3 hS3 (hle3.cell h15) hd)) ?_
 rintro _ Γ4 _ hle4 ⟨ou4, es4, c4, B4, b4, rfl, hb4, hB4, hu4, hS4, rfl⟩
 refine hz_ ?_
 refine WL.call rfl Tryz.call27 rfl rfl (by exact codeOfN_ok) ?_
 rintro _ _ _ - ⟨rfl, rfl, rfl⟩
 refine hz_ ?_
 (refine WL.lit tab_ok rfl rfl rfl rfl rfl rfl rfl spi_ rfl ?_; intro bq)
 refine hz_ ?_
 refine WL.append tab_ok rfl rfl rfl rfl rfl rfl rfl rfl how11 tk_ ((Ow.lit (s := 1) (b := bq) (k := 1) (l := [.int .i64 0]) (T := 3) rfl).src tab_ok rfl t1_ (by simp [Value.oneCell'])) (by omega) (by omega) (fun v5 Hs5 how5 => ?_)
 obtain ⟨a5, k5, rfl⟩ := Ow.shape how5
 refine hz_ ?_
 have hG4 := (hG3.mono hle4).monoB hB4
 have hm4 : missN ds (runT l ds 1000 ⟨[], []⟩ (js.take i)).1.seen ≤ 1000 := by have := hG4.few; omega
 refine WL.re' (H' := GHp pg pq tv3 ge3 gc3 Ht3 ((pu, ou4) :: (r2, .map es4.toArray c4) :: (H10 ++ (Hs5 ++ H)))) sn_ ?_
 have hnm : NmC Γ4 l ds B4 pg pq 1000 := by
  intro Γ F S tv Ht ge gc x d b
  exact nm_all hS4 hok 1000
 refine WL.call rfl Tryz.call29 rfl rfl (by exact (hnm (x := (j, 0)) (Env.le.rfl' _) hG4 hd hb4 hm4)) ?_
 rintro _ Γ5 _ hle5 ⟨tv5, Ht5, ge5, gc5, rfl, hG5, rfl⟩
 refine hz_ ?_
 (refine WL.lit tab_ok rfl rfl rfl rfl rfl rfl rfl spi_ rfl ?_; intro bp)
 refine hz_ ?_
 generalize hnn : numNd l ds 1000 (runT l ds 1000 ⟨[], []⟩ (js.take i)).1 (j, 0) = rn at hG5 ⊢
 refine WL.append tab_ok rfl rfl rfl rfl rfl rfl rfl rfl how10 tk_ ((Ow.lit (s := 1) (b := bp) (k := 1) (l := [.int .i64 rn.2]) (T := 3) rfl).src tab_ok rfl t1_ (by simp [Value.oneCell'])) (by omega) (by omega) (fun v6 Hs6 how6 => ?_)
 obtain ⟨a6, k6, rfl⟩ := Ow.shape how6
 refine hz_ ?_
 rw [hwi]
 have hrx : runT l ds 1000 ⟨[], []⟩ (js.take (i + 1)) = (rn.1, (runT l ds 1000 ⟨[], []⟩ (js.take i)).2 ++ [rn.2]) := by rw [hxl, runT_snoc, hnn]
 refine WE.again ⟨i + 1, _, _, _, _, _, _, ou4, es4, c4, B4, tv5, Ht5, ge5, gc5, rfl, rfl, hlt, hle3.trans (hle4.trans hle5), how6, by rw [hrx]; exact hL10.append (LisC.one rfl), how5, by rw [hxl, List.map_append]; exact hL11.append (LisC.one rfl), hu4.mono hle5, hS4.mono hle5, by rw [hrx]; exact hG5, rfl⟩ (by omega) sr_ sn_
end
end Go.Proofs.YtbgkbgoonjkghaaGreatDoor
namespace Go.Sl
open Go
section
variable {P : Program} {ops : Array Oper} {Q : Post} {n : Nat} {D : List Deferred} {R : Regs} {Γ : Env} {H : List Blk} {rest : List Oper}
variable {d : Nat} {ty : TypeId} {pos : String} {aft : Array Edge}
theorem run_eqFields_same {w : World} {m : Nat} {xs : Array Value} : ∀ fs : List Field, (∀ f ∈ fs, P.plainKey f.type = true ∧ ∃ v, xs[f.offset]? = some v ∧ (Op.equalIn m f.type v v).run P w = .ok true w) → (Op.eqFields m xs xs fs).run P w = .ok true w
 | [], _ => rfl
 | f :: fs, h => by
  obtain ⟨h1, v, h2, h3⟩ := h f (List.mem_cons_self ..)
  have ih := run_eqFields_same fs fun g hg => h g (List.mem_cons_of_mem _ hg)
  unfold Op.eqFields
  split
  ·simp only [Sem.run_bind, run_part_plain w h1 h2, Result.andThen_ok, h3, Bool.not_true, Bool.false_eq_true, if_false]
   exact ih
  ·exact ih
theorem WL.neSame {T : Tab} (hT : TabOk P T) {t : TypeId} {x y : Operand} {xs : Array Value} {fs : Array Field} (hx : ev R x = some (.agg xs)) (hy : ev R y = some (.agg xs))
  (hu : T.desc t = some (.struct fs)) (hp : P.stoodInHeld t = false) (hg : P.eqGuardType P.depth t = false) (hf : ∀ w, ∀ f ∈ fs.toList, P.plainKey f.type = true ∧ ∃ v, xs[f.offset]? = some v ∧ (Op.equalIn 9999 f.type v v).run P w = .ok true w) (hd : Nat.blt d n = true)
  {o5 : TypeId} (K : WL P ops Q n D rest ((d, .bool false) :: R) Γ H) : WL P ops Q n D (⟨some d, .binOp .neq t x y o5, ty, pos, aft, none⟩ :: rest) R Γ H :=
 WL.value hd fun s w hs => by
  refine ⟨_, w, ?_, Γ, H, hs.st, K⟩
  have hu' := Tab.desc_ok hT hu
  have hfo : P.fieldsOf t = fs := by simp only [Program.fieldsOf, hu']
  have he : (Op.equalIn 10000 t (.agg xs) (.agg xs)).run P w = .ok true w := by
   rw [show (10000 : Nat) = 9999 + 1 from rfl, run_equalIn_struct w 9999 t xs xs (by rw [hfo]; exact hu') hp, hfo]
   exact run_eqFields_same _ (hf w)
  simp only [execOp, ev_eval hs.regs hx, ev_eval hs.regs hy, Sem.run_bind, run_eqGuard_agg w .neq t x y _ _ hg, Result.andThen_ok, run_neq_struct, he, Bool.not_true, Sem.run_pure]
end
end Go.Sl
namespace Go.Proofs.YtbgkbgoonjkghaaGreatDoor
open Go Go.Sl
set_option maxRecDepth 10000
set_option maxHeartbeats 40000000
theorem eqS (w : World) (a : ByteArray) : (Op.equalIn 9999 9 (.string a) (.string a)).run Tryz.prog w = .ok true w := by
 have h := run_equalIn_string w 9998 9 a a (P := Tryz.prog) (Tab.desc_ok tab_ok rfl)
 simpa using h
theorem eqI (w : World) (a : Int) : (Op.equalIn 9999 3 (.int .i64 a) (.int .i64 a)).run Tryz.prog w = .ok true w := by
 have h := run_equalIn_int w 9998 3 .i64 .i64 a a (P := Tryz.prog) (Tab.desc_ok tab_ok rfl)
 simpa using h
theorem same_mem {x : Mem} {fs : Array Field} (hfs : fs = #[{ name := "Name", type := 9, offset := 0, embedded := false, tag := "", pkgPath := "", byteOffset := 0 }, { name := "Offset", type := 3, offset := 1, embedded := false, tag := "", pkgPath := "", byteOffset := 16 }, { name := "Of", type := 3, offset := 2, embedded := false, tag := "", pkgPath := "", byteOffset := 24 }]) :
  ∀ w, ∀ f ∈ fs.toList, Tryz.prog.plainKey f.type = true ∧ ∃ v, (#[Value.string x.name, .int .i64 x.off, .int .i64 x.of] : Array Value)[f.offset]? = some v ∧ (Op.equalIn 9999 f.type v v).run Tryz.prog w = .ok true w := by
 subst hfs
 intro w f hf
 simp only [List.mem_cons, List.not_mem_nil, or_false] at hf
 rcases hf with rfl | rfl | rfl
 ·exact ⟨by kernel_rfl, .string x.name, rfl, eqS _ _⟩
 ·exact ⟨by kernel_rfl, .int .i64 x.off, rfl, eqI _ _⟩
 ·exact ⟨by kernel_rfl, .int .i64 x.of, rfl, eqI _ _⟩
theorem same_con {x : Con} {fs : Array Field} (hfs : fs = #[{ name := "Name", type := 9, offset := 0, embedded := false, tag := "", pkgPath := "", byteOffset := 0 }, { name := "Val", type := 3, offset := 1, embedded := false, tag := "", pkgPath := "", byteOffset := 16 }]) :
  ∀ w, ∀ f ∈ fs.toList, Tryz.prog.plainKey f.type = true ∧ ∃ v, (#[Value.string x.name, .int .i64 x.val] : Array Value)[f.offset]? = some v ∧ (Op.equalIn 9999 f.type v v).run Tryz.prog w = .ok true w := by
 subst hfs
 intro w f hf
 simp only [List.mem_cons, List.not_mem_nil, or_false] at hf
 rcases hf with rfl | rfl
 ·exact ⟨by kernel_rfl, .string x.name, rfl, eqS _ _⟩
 ·exact ⟨by kernel_rfl, .int .i64 x.val, rfl, eqI _ _⟩
theorem sameType_ok {Γ : Env} {H : List Blk} {x : Ty} {s : Int} {kn : Bool} {c1 c2 : List Value} (h1 : TyC Γ x c1) (h2 : TyC Γ { x with size := s } c2) (hk : kn = true → s = x.size) (hm : x.mems.length ≤ 2147483647) (hp : x.pars.length ≤ 2147483647) (hc : x.cons.length ≤ 2147483647) :
  Spc Tryz.prog 14 #[.agg c1.toArray, .agg c2.toArray, .bool kn] Γ H (fun r Γ' H' => Γ = Γ' ∧ H = H' ∧ r = .bool true) := by
 obtain ⟨_, _, _, rfl, ⟨a1, p1, l1, rfl, hcp1, hI1, hL1⟩, ⟨a2, p2, l2, rfl, hcp2, hI2, hL2⟩, ⟨a3, p3, l3, rfl, hcp3, hI3, hL3⟩⟩ := h1
 obtain ⟨_, _, _, rfl, ⟨b1, q1, m1, rfl, hdp1, hJ1, hM1⟩, ⟨b2, q2, m2, rfl, hdp2, hJ2, hM2⟩, ⟨b3, q3, m3, rfl, hdp3, hJ3, hM3⟩⟩ := h2
 simp only at hdp1 hdp2 hdp3 hM1 hM2 hM3 ⊢
 refine Spc.body3 Tryz.func14 rfl Tryz.ntmps14 rfl ?_
 refine WC.seq ?_
 refine WC.region ?_
 (refine WL.box rfl spi_ rfl ?_; intro bx)
 (refine WL.box rfl spi_ rfl ?_; intro by_)
 refine gs_ ?_
 refine WE.then_ ?_
 refine WC.seq ?_
 refine WC.cutM (fun R' Γ' H' => Γ = Γ' ∧ R' = [(3, .pointer (some ⟨bx, 0, none⟩)), (4, .pointer (some ⟨by_, 0, none⟩)), (59, .bool false)] ∧ H' = (bx, cel [.int .i64 x.kind, .string x.name, .string x.own, .int .i64 x.size, .int .i64 x.of, .int .i64 x.count, .bool x.inc, .slice a1 x.mems.length p1, .slice a2 x.pars.length p2, .slice a3 x.cons.length p3] 46) :: (by_, cel [.int .i64 x.kind, .string x.name, .string x.own, .int .i64 s, .int .i64 x.of, .int .i64 x.count, .bool x.inc, .slice b1 x.mems.length q1, .slice b2 x.pars.length q2, .slice b3 x.cons.length q3] 46) :: H) ?_ ?_
 ·refine hz_ ?_
  rw [bne_self_eq_false]
  refine hz_ ?_
  rw [beq_self_eq_true, Bool.not_true]
  refine hz_ ?_
  rw [beq_self_eq_true, Bool.not_true]
  refine hz_ ?_
  cases kn with
  | false =>
   refine hz_ ?_
   rw [bne_self_eq_false]
   refine hz_ ?_
   rw [bne_self_eq_false]
   refine hz_ ?_
   rw [beq_self_eq_true, Bool.not_true]
   refine hz_ ?_
   exact WE.mid ⟨rfl, rfl, rfl⟩ sr_ sn_
  | true =>
   rw [hk rfl]
   refine hz_ ?_
   rw [bne_self_eq_false]
   refine hz_ ?_
   rw [bne_self_eq_false]
   refine hz_ ?_
   rw [bne_self_eq_false]
   refine hz_ ?_
   rw [beq_self_eq_true, Bool.not_true]
   refine hz_ ?_
   exact WE.mid ⟨rfl, rfl, rfl⟩ sr_ sn_
 rintro R' _ H' ⟨rfl, rfl, rfl⟩
 refine hz_ ?_
 rw [bne_self_eq_false]
 refine hz_ ?_
 rw [bne_self_eq_false]
 refine hz_ ?_
 rw [bne_self_eq_false]
 refine hz_ ?_
 refine WC.loopE (fun m R' Γ' H' => ∃ i, R' = [(3, .pointer (some ⟨bx, 0, none⟩)), (4, .pointer (some ⟨by_, 0, none⟩)), (87, .int .i64 (x.mems.length : Int)), (88, .int .i64 ((i : Nat) : Int))] ∧ Γ = Γ' ∧ H' = (bx, cel [.int .i64 x.kind, .string x.name, .string x.own, .int .i64 x.size, .int .i64 x.of, .int .i64 x.count, .bool x.inc, .slice a1 x.mems.length p1, .slice a2 x.pars.length p2, .slice a3 x.cons.length p3] 46) :: (by_, cel [.int .i64 x.kind, .string x.name, .string x.own, .int .i64 s, .int .i64 x.of, .int .i64 x.count, .bool x.inc, .slice b1 x.mems.length q1, .slice b2 x.pars.length q2, .slice b3 x.cons.length q3] 46) :: H ∧ m = x.mems.length - i ∧ i ≤ x.mems.length)
  ⟨0, rfl, rfl, rfl, rfl, Nat.zero_le _⟩ sr_ sn_ ?_
 rintro m R' Γ' H' ⟨i, rfl, rfl, rfl, rfl, hi⟩
 rcases Nat.lt_or_ge i x.mems.length with hlt | hge
 case inl =>
  obtain ⟨y, hy⟩ : ∃ y, x.mems[i]? = some y := ⟨_, List.getElem?_eq_getElem hlt⟩
  obtain ⟨o1, k1, d1, rfl, hP1, hc1⟩ := elemA hI1 hL1 (fun _ _ h => h.len) (w := 3) (by decide) hy
  obtain ⟨o2, k2, d2, rfl, hP2, hc2⟩ := elemA hJ1 hM1 (fun _ _ h => h.len) (w := 3) (by decide) hy
  cases hP1
  cases hP2
  have hwi : IntKind.i64.wrap ((i : Int) + 1) = (i : Int) + 1 := w_i64 (by omega) (by omega)
  refine hz_ ?_
  refine WC.condT rfl tr_ ?_
  refine hz_ ?_
  refine WC.draw 11 (.take 0 (.take 1 (.take 2 (.take 3 (.take 4 (.take 5 (.take 6 (.take 7 (.take 8 (.take 9 (.one 10 .done))))))))))) ((bx, cel [.int .i64 x.kind, .string x.name, .string x.own, .int .i64 x.size, .int .i64 x.of, .int .i64 x.count, .bool x.inc, .slice (some ⟨o1, k1, none⟩) x.mems.length p1, .slice a2 x.pars.length p2, .slice a3 x.cons.length p3] 46) :: (by_, cel [.int .i64 x.kind, .string x.name, .string x.own, .int .i64 s, .int .i64 x.of, .int .i64 x.count, .bool x.inc, .slice (some ⟨o2, k2, none⟩) x.mems.length q1, .slice b2 x.pars.length q2, .slice b3 x.cons.length q3] 46) :: []) mixed hsb_ (by decide +kernel) ?_
  refine jz_ ?_
  refine WL.neSame tab_ok rfl rfl rfl (by kernel_rfl) (by kernel_rfl) (same_mem rfl) rfl ?_
  refine jz_ ?_
  refine hz_ ?_
  exact WE.again ⟨i + 1, rfl, rfl, rfl, rfl, hlt⟩ (by omega) ⟨rfl, rfl, rfl, congrArg (fun z => some (Value.int .i64 z)) hwi, trivial⟩ sn_
 have ei : i = x.mems.length := by omega
 subst ei
 refine hz_ ?_
 refine WC.condF rfl (decide_eq_false (by omega)) ?_
 refine hz_ ?_
 refine WC.loopE (fun m R' Γ' H' => ∃ i, R' = [(3, .pointer (some ⟨bx, 0, none⟩)), (4, .pointer (some ⟨by_, 0, none⟩)), (105, .int .i64 (x.pars.length : Int)), (106, .int .i64 ((i : Nat) : Int))] ∧ Γ = Γ' ∧ H' = (bx, cel [.int .i64 x.kind, .string x.name, .string x.own, .int .i64 x.size, .int .i64 x.of, .int .i64 x.count, .bool x.inc, .slice a1 x.mems.length p1, .slice a2 x.pars.length p2, .slice a3 x.cons.length p3] 46) :: (by_, cel [.int .i64 x.kind, .string x.name, .string x.own, .int .i64 s, .int .i64 x.of, .int .i64 x.count, .bool x.inc, .slice b1 x.mems.length q1, .slice b2 x.pars.length q2, .slice b3 x.cons.length q3] 46) :: H ∧ m = x.pars.length - i ∧ i ≤ x.pars.length)
  ⟨0, rfl, rfl, rfl, rfl, Nat.zero_le _⟩ sr_ sn_ ?_
 rintro m R' Γ' H' ⟨i, rfl, rfl, rfl, rfl, hi⟩
 rcases Nat.lt_or_ge i x.pars.length with hlt | hge
 case inl =>
  obtain ⟨y, hy⟩ : ∃ y, x.pars[i]? = some y := ⟨_, List.getElem?_eq_getElem hlt⟩
  obtain ⟨o1, k1, d1, rfl, hP1, hc1⟩ := elemA hI2 hL2 (fun _ _ h => h.len) (w := 1) (by decide) hy
  obtain ⟨o2, k2, d2, rfl, hP2, hc2⟩ := elemA hJ2 hM2 (fun _ _ h => h.len) (w := 1) (by decide) hy
  cases hP1
  cases hP2
  obtain ⟨e1, -⟩ := hc1
  obtain ⟨f1, -⟩ := hc2
  have hwi : IntKind.i64.wrap ((i : Int) + 1) = (i : Int) + 1 := w_i64 (by omega) (by omega)
  refine hz_ ?_
  refine WC.condT rfl tr_ ?_
  refine hz_ ?_
  refine WC.draw 11 (.take 0 (.take 1 (.take 2 (.take 3 (.take 4 (.take 5 (.take 6 (.take 7 (.take 8 (.take 9 (.take 10 .done))))))))))) ((bx, cel [.int .i64 x.kind, .string x.name, .string x.own, .int .i64 x.size, .int .i64 x.of, .int .i64 x.count, .bool x.inc, .slice a1 x.mems.length p1, .slice (some ⟨o1, k1, none⟩) x.pars.length p2, .slice a3 x.cons.length p3] 46) :: (by_, cel [.int .i64 x.kind, .string x.name, .string x.own, .int .i64 s, .int .i64 x.of, .int .i64 x.count, .bool x.inc, .slice b1 x.mems.length q1, .slice (some ⟨o2, k2, none⟩) x.pars.length q2, .slice b3 x.cons.length q3] 46) :: []) mixed hsb_ (by decide +kernel) ?_
  refine jz_ ?_
  rw [bne_self_eq_false]
  refine jz_ ?_
  refine hz_ ?_
  exact WE.again ⟨i + 1, rfl, rfl, rfl, rfl, hlt⟩ (by omega) ⟨rfl, rfl, rfl, congrArg (fun z => some (Value.int .i64 z)) hwi, trivial⟩ sn_
 have ei : i = x.pars.length := by omega
 subst ei
 refine hz_ ?_
 refine WC.condF rfl (decide_eq_false (by omega)) ?_
 refine hz_ ?_
 refine WC.loopE (fun m R' Γ' H' => ∃ i, R' = [(3, .pointer (some ⟨bx, 0, none⟩)), (4, .pointer (some ⟨by_, 0, none⟩)), (123, .int .i64 (x.cons.length : Int)), (124, .int .i64 ((i : Nat) : Int))] ∧ Γ = Γ' ∧ H' = (bx, cel [.int .i64 x.kind, .string x.name, .string x.own, .int .i64 x.size, .int .i64 x.of, .int .i64 x.count, .bool x.inc, .slice a1 x.mems.length p1, .slice a2 x.pars.length p2, .slice a3 x.cons.length p3] 46) :: (by_, cel [.int .i64 x.kind, .string x.name, .string x.own, .int .i64 s, .int .i64 x.of, .int .i64 x.count, .bool x.inc, .slice b1 x.mems.length q1, .slice b2 x.pars.length q2, .slice b3 x.cons.length q3] 46) :: H ∧ m = x.cons.length - i ∧ i ≤ x.cons.length)
  ⟨0, rfl, rfl, rfl, rfl, Nat.zero_le _⟩ sr_ sn_ ?_
 rintro m R' Γ' H' ⟨i, rfl, rfl, rfl, rfl, hi⟩
 rcases Nat.lt_or_ge i x.cons.length with hlt | hge
 case inl =>
  obtain ⟨y, hy⟩ : ∃ y, x.cons[i]? = some y := ⟨_, List.getElem?_eq_getElem hlt⟩
  obtain ⟨o1, k1, d1, rfl, hP1, hc1⟩ := elemA hI3 hL3 (fun _ _ h => h.len) (w := 2) (by decide) hy
  obtain ⟨o2, k2, d2, rfl, hP2, hc2⟩ := elemA hJ3 hM3 (fun _ _ h => h.len) (w := 2) (by decide) hy
  cases hP1
  cases hP2
  have hwi : IntKind.i64.wrap ((i : Int) + 1) = (i : Int) + 1 := w_i64 (by omega) (by omega)
  refine hz_ ?_
  refine WC.condT rfl tr_ ?_
  refine hz_ ?_
  refine WC.draw 11 (.take 0 (.take 1 (.take 2 (.take 3 (.take 4 (.take 5 (.take 6 (.take 7 (.take 8 (.take 9 (.one 10 .done))))))))))) ((bx, cel [.int .i64 x.kind, .string x.name, .string x.own, .int .i64 x.size, .int .i64 x.of, .int .i64 x.count, .bool x.inc, .slice a1 x.mems.length p1, .slice a2 x.pars.length p2, .slice (some ⟨o1, k1, none⟩) x.cons.length p3] 46) :: (by_, cel [.int .i64 x.kind, .string x.name, .string x.own, .int .i64 s, .int .i64 x.of, .int .i64 x.count, .bool x.inc, .slice b1 x.mems.length q1, .slice b2 x.pars.length q2, .slice (some ⟨o2, k2, none⟩) x.cons.length q3] 46) :: []) mixed hsb_ (by decide +kernel) ?_
  refine jz_ ?_
  refine WL.neSame tab_ok rfl rfl rfl (by kernel_rfl) (by kernel_rfl) (same_con rfl) rfl ?_
  refine jz_ ?_
  refine hz_ ?_
  exact WE.again ⟨i + 1, rfl, rfl, rfl, rfl, hlt⟩ (by omega) ⟨rfl, rfl, rfl, congrArg (fun z => some (Value.int .i64 z)) hwi, trivial⟩ sn_
 have ei : i = x.cons.length := by omega
 subst ei
 refine hz_ ?_
 refine WC.condF rfl (decide_eq_false (by omega)) ?_
 refine hz_ ?_
 refine WE.drop (b := bx) pk_ ?_
 refine WE.drop (b := by_) pk_ ?_
 exact end_1 rfl rfl (Env.le.rfl' _) ⟨rfl, rfl, rfl⟩
theorem rz_ {p q : Prop} (k : q) (h : Wrp q → p := by intro k; (repeat (first | (refine WD.g ?_; first | refine WD.one rfl ?_ | refine WD.done ?_ | (refine WD.gTake ?_; first | (refine WD.run tab_ok ?_ rfl rfl ?_; (focus (exact np_))) | (refine WD.at_ rfl ?_; (first | (refine WT.gLoad ?_; first | (apply WT.load; exact np_; exact rfl; exact rfl; exact hld_) | (apply WT.loadG; exact np_; exact rfl; exact rfl; exact rfl; exact hld_)) | (refine WT.gIdx ?_; first | (refine WT.idx tab_ok ?_ rfl rfl rfl rfl rfl ?_ ?_ ?_; (focus (exact np_)); (focus omega); (focus omega)) | (refine WT.idxG tab_ok ?_ rfl rfl rfl rfl rfl rfl ?_ ?_ ?_; (focus (exact np_)); (focus omega); (focus omega))) | (refine WT.gSlice ?_; refine WT.slLo tab_ok ?_ rfl rfl rfl rfl rfl ?_ ?_ ?_ ?_; (focus (exact np_)); (focus omega); (focus omega); (focus omega)) | (refine WT.gBuild ?_; refine WT.build tab_ok np_ rfl rfl spi_ ?_) | (refine WT.pure tab_ok ?_ rfl rfl ?_; (focus (exact np_))) | (refine WT.pureG tab_ok ?_ rfl rfl rfl ?_; (focus (exact np_))) | (refine WT.noG ?_ rfl rfl rfl ?_; (focus (exact np_))))))) | (refine WL.g ?_; first | refine WL.nil ?_ | refine WL.run tab_ok rfl rfl ?_ | (refine WL.gLoad ?_; first | refine WL.ld tab_ok rfl rfl rfl pk_ rfl rfl ?_ | refine WL.ldA tab_ok rfl rfl rfl pk_ cut_ rfl ?_ | refine WL.ldI tab_ok rfl rfl rfl (by assumption) rfl ?_ | refine WL.ldR tab_ok rfl rfl rfl hrd_ rfl ?_ | refine WL.ldAI tab_ok rfl rfl rfl (by assumption) rfl rfl ?_) | (refine WL.gStore ?_; refine WL.st tab_ok rfl rfl rfl pk_ spl_ rfl rfl ?_) | (refine WL.gIdx ?_; refine WL.idx tab_ok rfl rfl rfl rfl (by omega) (by omega) rfl ?_) | (refine WL.gBuild ?_; refine WL.build tab_ok rfl spi_ rfl ?_) | (refine WL.gSlice ?_; first | refine WL.slLo tab_ok rfl rfl rfl rfl (by omega) (by omega) (by omega) rfl ?_ | refine WL.slHi tab_ok rfl rfl rfl rfl (by omega) (by omega) rfl ?_ | refine WL.slLH tab_ok rfl rfl rfl rfl rfl (by omega) (by omega) (by omega) rfl ?_) | (refine WL.gBin ?_; first | refine WL.pure tab_ok (evalP_shl rfl rfl (by omega)) rfl ?_ | refine WL.pure tab_ok (evalP_shr rfl rfl (by omega)) rfl ?_) | refine WL.pure tab_ok rfl rfl ?_ | (refine WL.gGuard ?_; first | refine WL.yes rfl rfl rfl ?_ | refine WL.no rfl rfl rfl rfl rfl ?_ | refine WL.noU rfl rfl rfl rfl ?_)) | (refine WE.g ?_; first | refine WE.then_ ?_ | refine WE.thenX rfl ?_ | refine WE.block_n ?_ | refine WE.block_x ?_ | refine WE.block_y rfl ?_ | refine WE.block_r ?_ | apply WE.drawnL | (apply WE.drawn; exact (by first | exact Env.le.rfl' _ | assumption); exact hsb_) | refine WE.ng_n ?_ | refine WE.ng_r ?_ | refine WE.ng_x ?_ | refine WE.np_n ?_ | refine WE.np_r ?_ | refine WE.np_x ?_))); exact k.out) : p := h ⟨k⟩
theorem SecR.shapeT {Γ : Env} {v : Value} {ab info ln rg sr lin : List UInt8} {rl : Option (List UInt8)} (h : SecR Γ v ab info ln rg sr lin rl) :
  ∃ a1 n1 c1 a2 n2 c2 a3 n3 c3 a4 n4 c4 a5 n5 c5 a6 n6 c6, v = .agg #[.slice a1 n1 c1, .slice a2 n2 c2, .slice a3 n3 c3, .slice a4 n4 c4, .slice a5 n5 c5, .slice a6 n6 c6, nls] := by
 obtain ⟨vA, vI, vL, vR, vS, vD, rfl, ⟨_, _, rfl, -, -⟩, ⟨_, _, rfl, -, -⟩, ⟨_, _, rfl, -, -⟩, ⟨_, _, rfl, -, -⟩, ⟨_, _, rfl, -, -⟩, hD⟩ := h.ex
 obtain ⟨b, cap, vl, -, -, -, h4⟩ := hD
 cases rl with
 | none =>
  obtain ⟨rfl, -⟩ := h4
  exact ⟨_, _, _, _, _, _, _, _, _, _, _, _, _, _, _, _, _, _, rfl⟩
 | some r =>
  obtain ⟨rfl, -⟩ := h4
  exact ⟨_, _, _, _, _, _, _, _, _, _, _, _, _, _, _, _, _, _, rfl⟩
theorem place1 {Γ : Env} {l : Lay} {ds : List Df} {kn pb po pc : Nat} {d : Df} {cells : List Value} (hok : OkDs l ds) (hI : ImA Γ (some ⟨pb, po, none⟩) cells) (hL : LisC NumC (PLI l ds) cells) (hd : ds[kn]? = some d) (hc : ds.length ≤ pc) :
  Arr Γ NumC (.slice (saddr (some ⟨pb, po, none⟩) pc ((kn : Nat) : Int).toNat 1) ((((kn : Nat) : Int) + 1).toNat - ((kn : Nat) : Int).toNat) (pc - ((kn : Nat) : Int).toNat)) ([kn].map fun j => ((nodO l ds (rtI ds j) : Nat) : Int)) := by
 have hlt := (List.getElem?_eq_some_iff.1 hd).1
 obtain ⟨b, o, c, e, hP, hcc⟩ := elemA hI hL (fun _ _ h => NumC.len h) (w := 1) (by decide) (PLI_get hok hd)
 injection e with e; injection e with e1 e2
 subst e1 e2
 cases hP
 have h1 : (((kn : Nat) : Int) + 1).toNat - ((kn : Nat) : Int).toNat = 1 := by omega
 rw [h1]
 refine ⟨saddr (some ⟨pb, po, none⟩) pc ((kn : Nat) : Int).toNat 1, pc - ((kn : Nat) : Int).toNat, [.int .i64 ((nodO l ds (rtI ds kn) : Nat) : Int)], rfl, ?_, ?_, LisC.one rfl⟩
 ·simp only [List.length_map, List.length_singleton]; omega
 ·intro i x hx
  have hi : i = 0 := by have := (List.getElem?_eq_some_iff.1 hx).1; simp only [List.length_singleton] at this; omega
  subst hi
  injection hx with hx; subst hx
  refine ⟨pb, po + ((kn : Nat) : Int).toNat * 1, ?_, by simpa using hcc.1⟩
  unfold saddr
  rw [if_neg (by omega)]
  simp [Addr.add]
theorem arr1 {Γ : Env} {v : Value} {z : Int} (h : Arr Γ NumC v [z]) : ∃ b o cap, v = .slice (some ⟨b, o, none⟩) 1 cap ∧ Γ.cell b (o + (0 : Int).toNat * 1) = some (.int .i64 z) := by
 obtain ⟨a, c, cells, rfl, hc, hI, hL⟩ := h
 obtain ⟨b, o, _, rfl, h, h2⟩ := elemA hI hL (fun _ _ h => NumC.len h) (w := 1) (by decide) (i := 0) rfl
 cases h
 exact ⟨b, o, c, rfl, h2.1⟩
theorem runT1 (l : Lay) (ds : List Df) (f : Nat) (S : TSt) (j : Nat) : runT l ds f S [j] = ((numNd l ds f S (j, 0)).1, [(numNd l ds f S (j, 0)).2]) := rfl
end Go.Proofs.YtbgkbgoonjkghaaGreatDoor
namespace Go.Sl
open Go
def envW (W : World) : Env := ⟨fun b => W.heap[b]?, W.os, W.tape, W.output⟩
theorem envW_st (W : World) : St (envW W) [] W := ⟨fun _ _ h => h, fun _ _ h => (by simp at h), List.Pairwise.nil, fun _ _ h => (by simp at h), rfl, rfl, rfl⟩
theorem envW_cell {W : World} {a : Addr} {x : Value} (h : W.cell? a = some x) : a.spot = none ∧ (envW W).cell a.block a.off = some x := by
 obtain ⟨b, o, s⟩ := a
 unfold World.cell? at h
 unfold Env.cell envW
 simp only at h ⊢
 split at h
 ·next c t fz hb =>
  split at h
  ·cases h
  ·next hs =>
   refine ⟨?_, by rw [hb]; exact h⟩
   cases s with
   | none => rfl
   | some k => exact absurd rfl hs
 ·cases h
end Go.Sl
namespace Go.Proofs.YtbgkbgoonjkghaaGreatDoor
open Go Go.Sl Go.Deep Go.WideElems
set_option maxRecDepth 10000
set_option maxHeartbeats 4000000
section
variable {HH : Type} {enc : TypeId × Value → HH} {W : World} {base : Nat} {spr : Nat → Bool} {held : Bool}
theorem read_slice {α : Type} {P : Program} {P1 : α → List Value → Prop} {w : Nat} {t e : TypeId} (ht : P.underlying t = some (.slice e)) (hw : P.cellsOf e = w) (h0 : 0 < w) (hP : ∀ x c, P1 x c → c.length = w)
  (hel : ∀ n cs x, DataW.trod enc P W base spr held n e cs = some x → ∃ y, P1 y cs) {fuel : Nat} {cs : List Value} {x : DataW HH × List MemPlace} (h : DataW.trod enc P W base spr held fuel t cs = some x) :
  ∃ v ys, cs = [v] ∧ Arr (envW W) P1 v ys := by
 rcases open_slice ht h with ⟨rfl, -⟩ | ⟨a, len, cap, m, n, D, Pl, rfl, hb, hl, hm, hmm, rfl, hx⟩
 ·exact ⟨_, [], rfl, none, 0, [], rfl, Nat.le_refl _, fun i x e => by simp at e, rfl⟩
 ·have hlm : len ≤ m := by rw [hmm]; split <;> omega
  clear hmm hm hb
  rw [hw] at hx
  rcases Nat.eq_zero_or_pos len with hz | hpos
  ·subst hz
   exact ⟨_, [], rfl, some a, cap, [], rfl, Nat.zero_le _, fun i x e => by simp at e, rfl⟩
  have hsp : a.spot = none := by
   obtain ⟨cs', g1, g2⟩ := hx 0 (by omega)
   obtain ⟨-, gl, gc⟩ := World.cells?_some g1
   have g := gc 0 (by omega)
   rw [List.getElem?_eq_getElem (by omega)] at g
   have := (envW_cell g).1
   simpa [Addr.add] using this
  obtain ⟨b, o, s⟩ := a
  simp only at hsp
  subst hsp
  have key : ∀ k, k ≤ len → ∃ ys cells, ys.length = k ∧ LisC P1 ys cells ∧ ∀ (j : Nat) (x : Value), cells[j]? = some x → (envW W).cell b (o + j) = some x := by
   intro k
   induction k with
   | zero => exact fun _ => ⟨[], [], rfl, rfl, fun j x hj => by simp at hj⟩
   | succ k ih =>
    intro hk
    obtain ⟨ys, cells, h1, h2, h3⟩ := ih (by omega)
    obtain ⟨cs', g1, g2⟩ := hx k (by omega)
    obtain ⟨y, hy⟩ := hel _ _ _ g2
    obtain ⟨-, gl, gc⟩ := World.cells?_some g1
    have hcl := LisC.length hP h2
    rw [h1] at hcl
    refine ⟨ys ++ [y], cells ++ cs', by simp [h1], h2.append (LisC.one hy), fun j x hj => ?_⟩
    by_cases hlt : j < cells.length
    ·rw [List.getElem?_append_left hlt] at hj; exact h3 j x hj
    ·obtain ⟨i, rfl⟩ : ∃ i, j = cells.length + i := ⟨j - cells.length, by clear hx h3 gc; omega⟩
     rw [List.getElem?_append_right (Nat.le_add_right _ _), Nat.add_sub_cancel_left] at hj
     have hjl := (List.getElem?_eq_some_iff.1 hj).1
     have g := gc i (by omega)
     rw [hj, Addr.add_lit, Addr.add_lit, ← hcl] at g
     have g4 := (envW_cell g).2
     rw [← Nat.add_assoc]; exact g4
  obtain ⟨ys, cells, h1, h2, h3⟩ := key len (Nat.le_refl _)
  exact ⟨_, ys, rfl, some ⟨b, o, none⟩, cap, cells, by rw [h1], by omega, fun j x hj => ⟨b, o, rfl, h3 j x hj⟩, h2⟩
theorem fld {P : Program} {t : TypeId} {fs : Array Field} {fuel : Nat} {cs : List Value} {x : DataW HH × List MemPlace} (ht : P.underlying t = some (.struct fs)) (h : DataW.trod enc P W base spr held fuel t cs = some x)
  (i : Nat) (f : Field) (hf : fs[i]? = some f) {k : Nat} (hk : P.cellsOf f.type = k) : ∃ n y, DataW.trod enc P W base spr held n f.type ((cs.drop f.offset).take k) = some y := by
 obtain ⟨xs, n, _, _, hl, hlen, hg⟩ := DataW.trod_struct ht h
 have := hg i f hf
 have hi : i < xs.length := by rw [hlen]; exact (Array.getElem?_eq_some_iff.1 hf).1
 rw [List.getElem?_eq_getElem hi, hk] at this
 exact ⟨n, _, this⟩
theorem fldLen {P : Program} {t : TypeId} {fs : Array Field} {fuel : Nat} {cs : List Value} {x : DataW HH × List MemPlace} (ht : P.underlying t = some (.struct fs)) (h : DataW.trod enc P W base spr held fuel t cs = some x) : cs.length = P.cellsOf t := by
 obtain ⟨xs, n, _, _, hl, _⟩ := DataW.trod_struct ht h; exact hl
def U8C (x : UInt8) (c : List Value) : Prop := c = [u8v x]
end
end Go.Proofs.YtbgkbgoonjkghaaGreatDoor
namespace Go.Proofs.YtbgkbgoonjkghaaGreatDoor
open Go Go.Sl Go.ChangeShapes Go.WideShapes Go.ChangeMaps Go.WideElems
set_option maxRecDepth 100000
set_option maxHeartbeats 4000000
theorem mem_foldr {HH : Type} {y : Lit × DataW HH} : ∀ {l : List (Lit × DataW HH)}, y ∈ l.foldr DataW.insert [] ↔ y ∈ l
 | [] => by simp
 | x :: l => by rw [List.foldr_cons, mem_insert_iff, mem_foldr, List.mem_cons]
section
variable {W : World} {base : Nat} {spr : Nat → Bool} {held : Bool}
theorem map_ints {P : Program} {k : TypeId} {kk : IntKind} {R : Value → Option (DataW Unit × List MemPlace)} {es : Array MapEntry} {clock : Nat} {D : List (Lit × DataW Unit)} (hk : P.underlying k = some (.int kk)) (F : Fit P k R es clock)
  (hD : (es.toList.map (rg P k R)).foldr DataW.insert [] = D) :
  keysOf kk es.toList ∧ (∀ x ∈ es.toList, ∃ z y, x.key = .int kk z ∧ R x.val = some y ∧ (Lit.int kk z, y.1) ∈ D) ∧ (∀ z d, (Lit.int kk z, d) ∈ D → ∃ x ∈ es.toList, x.key = .int kk z) := by
 have h1 : ∀ x ∈ es.toList, ∃ z y, x.key = .int kk z ∧ R x.val = some y ∧ rg P k R x = (Lit.int kk z, y.1) := fun x hx => by
  obtain ⟨y, hy⟩ := F.reads x hx
  have hkey := rd_key hy
  obtain ⟨v, hv, he⟩ := rd_val hy
  have hrg := rg_of hy
  unfold keyOf mapKey at hkey
  rw [hk] at hkey
  simp only at hkey
  cases hxk : x.key <;> rw [hxk] at hkey <;> simp only at hkey <;> try (cases hkey)
  next q n =>
   split at hkey
   ·next hc =>
    obtain ⟨rfl, -⟩ := hc
    injection hkey with hkey
    refine ⟨n, v, rfl, hv, ?_⟩
    rw [hrg, hkey, ← he]
   ·cases hkey
 refine ⟨fun x hx => ?_, fun x hx => ?_, fun z d hd => ?_⟩
 ·obtain ⟨z, _, hz, _⟩ := h1 x hx; exact ⟨z, hz⟩
 ·obtain ⟨z, y, hz, hv, hr⟩ := h1 x hx
  refine ⟨z, y, hz, hv, ?_⟩
  rw [← hD, mem_foldr, ← hr]
  exact List.mem_map_of_mem hx
 ·rw [← hD, mem_foldr] at hd
  obtain ⟨x, hx, hr⟩ := List.mem_map.1 hd
  obtain ⟨z', y, hz, hv, hr2⟩ := h1 x hx
  rw [hr2] at hr
  injection hr with hr1 hr3
  injection hr1 with _ hr1
  exact ⟨x, hx, by rw [hz, hr1]⟩
theorem mfind_mem {z : Int} {kk : IntKind} : ∀ {l : List MapEntry} {i j : Nat} {v : Value}, keysOf kk l → mfind z l i = some (j, v) → ∃ x ∈ l, x.key = .int kk z ∧ x.val = v
 | [], _, _, _, _, h => by cases h
 | e :: l, i, j, v, hk, h => by
  obtain ⟨y, hy⟩ := hk e (List.mem_cons_self ..)
  simp only [mfind, hy] at h
  cases hb : z == y with
  | true =>
   rw [hb] at h
   injection h with h; injection h with h1 h2
   have := eq_of_beq hb
   subst this
   exact ⟨e, List.mem_cons_self .., hy, h2⟩
  | false =>
   rw [hb] at h
   obtain ⟨x, hx, h1, h2⟩ := mfind_mem (fun x hx => hk x (List.mem_cons_of_mem _ hx)) h
   exact ⟨x, List.mem_cons_of_mem _ hx, h1, h2⟩
theorem mfind_none {z : Int} {kk : IntKind} : ∀ {l : List MapEntry} {i : Nat}, keysOf kk l → mfind z l i = none → ∀ x ∈ l, x.key ≠ .int kk z
 | [], _, _, _, x, hx => by simp at hx
 | e :: l, i, hk, h, x, hx => by
  obtain ⟨y, hy⟩ := hk e (List.mem_cons_self ..)
  simp only [mfind, hy] at h
  cases hb : z == y with
  | true => rw [hb] at h; cases h
  | false =>
   rw [hb] at h
   rcases List.mem_cons.1 hx with rfl | hx
   ·rw [hy]; intro e; injection e with _ e; subst e; simp at hb
   ·exact mfind_none (fun x hx => hk x (List.mem_cons_of_mem _ hx)) h x hx
end
abbrev laidAll : List (String × DataW Unit) := [("math/bits.deBruijn32tab", Rows.laid_math_bits_deBruijn32tab), ("math/bits.deBruijn64tab", Rows.laid_math_bits_deBruijn64tab), ("internal/strconv.uint64pow10", Rows.laid_internal_strconv_uint64pow10), ("io.EOF", Rows.laid_io_EOF), ("loop.example/pub-g03041/pub/dwarf.attrIsExprloc", Rows.laid_loop_example_pub_g03041_pub_dwarf_attrIsExprloc), ("loop.example/pub-g03041/pub/dwarf.attrPtrClass", Rows.laid_loop_example_pub_g03041_pub_dwarf_attrPtrClass), ("loop.example/pub-g03041/pub/dwarf.ErrUnknownPC", Rows.laid_loop_example_pub_g03041_pub_dwarf_ErrUnknownPC)]
theorem gExpr : Tryz.prog.globalNamed "loop.example/pub-g03041/pub/dwarf.attrIsExprloc" = some 2 := by kernel_rfl
theorem gPtr : Tryz.prog.globalNamed "loop.example/pub-g03041/pub/dwarf.attrPtrClass" = some 3 := by kernel_rfl
theorem glob_of_laid {W : World} (h : laidMetH Tryz.prog laidAll W) : Glob (envW W) := by
 rw [MakeChecks.laidMetH_plain _ _ _ (by kernel_rfl)] at h
 obtain ⟨ps, ⟨g0, t0, cs0, f0, p0, q0, hg0, ht0, hv0, hd0, ⟨g1, t1, cs1, f1, p1, q1, hg1, ht1, hv1, hd1, ⟨g2, t2, cs2, f2, p2, q2, hg2, ht2, hv2, hd2, ⟨g3, t3, cs3, f3, p3, q3, hg3, ht3, hv3, hd3, ⟨g4, t4, cs4, f4, p4, q4, hg4, ht4, hv4, hd4, ⟨g5, t5, cs5, f5, p5, q5, hg5, ht5, hv5, hd5, -⟩, -⟩, -⟩, -⟩, -⟩, -⟩, -, -⟩ := h
 clear hd0 hd1 hd2 hd3 hv0 hv1 hv2 hv3 hg0 hg1 hg2 hg3 ht0 ht1 ht2 ht3
 obtain rfl := Option.some.inj (gExpr.symm.trans hg4)
 obtain rfl := Option.some.inj (gPtr.symm.trans hg5)
 obtain rfl := Option.some.inj ((show (Tryz.prog.globals[2]?).map (·.type) = some 330 by kernel_rfl).symm.trans ht4)
 obtain rfl := Option.some.inj ((show (Tryz.prog.globals[3]?).map (·.type) = some 332 by kernel_rfl).symm.trans ht5)
 constructor
 ·rcases Go.WideElems.open_map Tryz.underlying330 hd4 with ⟨_, hx⟩ | ⟨b, es, clock, n, -, hcs, hb, -, F, hx⟩
  ·have := (Prod.mk.inj hx).1
   unfold Rows.laid_loop_example_pub_g03041_pub_dwarf_attrIsExprloc at this
   cases this
  have hD := (Prod.mk.inj hx).1
  unfold Rows.laid_loop_example_pub_g03041_pub_dwarf_attrIsExprloc at hD
  injection hD with hD
  obtain ⟨hkeys, hmem, hback⟩ := map_ints (kk := .u32) Tryz.underlying176 F hD.symm
  have hDm : ∀ y, y ∈ exprAttrs.map (fun a => (Lit.int .u32 a, (DataW.lit (.bool true) : DataW Unit))) ↔ y ∈ _ := fun y => Iff.rfl
  have hcell := World.var?_cell hg4 hv4 0
  rw [Array.eq_one_of_toList hcs] at hcell
  refine ⟨b, es.toList, clock, (envW_cell hcell).2, by show W.heap[b]? = _; rw [hb], hkeys, fun a => ?_⟩
  cases hm : mfind a es.toList 0 with
  | none =>
   have hn := mfind_none hkeys hm
   have : exprAttrs.contains a = false := by
    rw [← Bool.not_eq_true]
    intro hc
    have ha : a ∈ exprAttrs := by simpa using hc
    obtain ⟨x, hx, hk⟩ := hback a (.lit (.bool true)) ((hDm _).1 (List.mem_map_of_mem (f := fun a => (Lit.int .u32 a, (DataW.lit (.bool true) : DataW Unit))) ha))
    exact hn x hx hk
   rw [this]; rfl
  | some jv =>
   obtain ⟨j, v⟩ := jv
   obtain ⟨x, hx, hk, hv⟩ := mfind_mem hkeys hm
   obtain ⟨z, y, hz, hR, hy⟩ := hmem x hx
   rw [hk] at hz
   injection hz with _ hz
   subst hz
   obtain ⟨a', ha', e⟩ := List.mem_map.1 ((hDm _).2 hy)
   injection e with e1 e2
   injection e1 with _ e1
   subst e1
   have hc : exprAttrs.contains a' = true := by simpa using ha'
   unfold elemAt at hR
   split at hR
   ·next hf =>
    obtain ⟨bb, g1, g2⟩ := DataW.trod_bool Tryz.underlying4 hR
    rw [g2] at e2
    injection e2 with e2; injection e2 with e2
    subst e2
    rw [hc]
    show v = _
    rw [← hv]
    cases hxv : x.val <;> rw [hxv] at g1 hf <;> simp [Value.cells] at g1
    ·rw [g1]
    ·simp [Value.formed, Tryz.underlying4] at hf
   ·cases hR
 ·rcases Go.WideElems.open_map Tryz.underlying332 hd5 with ⟨_, hx⟩ | ⟨b, es, clock, n, -, hcs, hb, -, F, hx⟩
  ·have := (Prod.mk.inj hx).1
   unfold Rows.laid_loop_example_pub_g03041_pub_dwarf_attrPtrClass at this
   cases this
  have hD := (Prod.mk.inj hx).1
  unfold Rows.laid_loop_example_pub_g03041_pub_dwarf_attrPtrClass at hD
  injection hD with hD
  obtain ⟨hkeys, hmem, hback⟩ := map_ints (kk := .u32) Tryz.underlying176 F hD.symm
  have hDm : ∀ y, y ∈ ptrTable.map (fun p => (Lit.int .u32 p.1, (DataW.lit (.int .i64 p.2) : DataW Unit))) ↔ y ∈ _ := fun y => Iff.rfl
  have hcell := World.var?_cell hg5 hv5 0
  rw [Array.eq_one_of_toList hcs] at hcell
  refine ⟨b, es.toList, clock, (envW_cell hcell).2, by show W.heap[b]? = _; rw [hb], hkeys, fun a => ?_⟩
  cases hm : mfind a es.toList 0 with
  | none =>
   have hn := mfind_none hkeys hm
   have : ptrC a = none := by
    unfold ptrC
    rw [Option.map_eq_none_iff, List.find?_eq_none]
    intro p hp hc
    have he := eq_of_beq hc
    subst he
    obtain ⟨x, hx, hk⟩ := hback p.1 (.lit (.int .i64 p.2)) ((hDm _).1 (List.mem_map_of_mem (f := fun p => (Lit.int .u32 p.1, (DataW.lit (.int .i64 p.2) : DataW Unit))) hp))
    exact hn x hx hk
   rw [this]; rfl
  | some jv =>
   obtain ⟨j, v⟩ := jv
   obtain ⟨x, hx, hk, hv⟩ := mfind_mem hkeys hm
   obtain ⟨z, y, hz, hR, hy⟩ := hmem x hx
   rw [hk] at hz
   injection hz with _ hz
   subst hz
   obtain ⟨p, hp, e⟩ := List.mem_map.1 ((hDm _).2 hy)
   injection e with e1 e2
   injection e1 with _ e1
   subst e1
   have hc : ptrC p.1 = some p.2 := (by decide : ∀ p ∈ ptrTable, ptrC p.1 = some p.2) p hp
   unfold elemAt at hR
   split at hR
   ·next hf =>
    obtain ⟨bb, g1, g2, -⟩ := DataW.trod_int Tryz.underlying292 hR
    rw [g2] at e2
    injection e2 with e2; injection e2 with _ e2
    subst e2
    rw [hc]
    show Value.tuple #[v, .bool true] = _
    rw [← hv]
    cases hxv : x.val <;> rw [hxv] at g1 hf <;> simp [Value.cells] at g1
    ·rw [g1.1, g1.2]; rfl
    ·simp [Value.formed, Tryz.underlying292] at hf
   ·cases hR
end Go.Proofs.YtbgkbgoonjkghaaGreatDoor
namespace Go.Proofs.YtbgkbgoonjkghaaGreatDoor
open Go Go.Sl Go.ChangeShapes Go.WideShapes Go.ChangeMaps Go.WideElems Go.RowKit
set_option maxRecDepth 100000
set_option maxHeartbeats 4000000
section
variable {HH : Type} {enc : TypeId × Value → HH} {P : Program} {W W' : World}
def Ext (W W' : World) : Prop := ∀ (b : Nat) (o : Obj), W.heap[b]? = some o → W'.heap[b]? = some o
theorem Ext.same (h : Ext W W') {p : MemPlace} (hp : p.block < W.heap.size) : W.sameAt W' p := by
 obtain ⟨o, ho⟩ : ∃ o, W.heap[p.block]? = some o := ⟨_, Array.getElem?_eq_getElem hp⟩
 have := h _ _ ho
 cases p with
 | cell b off =>
  show W'.cell? _ = W.cell? _
  simp only [World.cell?, MemPlace.block] at *
  rw [ho, this]
 | map b =>
  show W'.heap[b]? = W.heap[b]?
  simp only [MemPlace.block] at *
  rw [ho, this]
theorem Ext.var (h : Ext W W') {n : String} {cs : Array Value} (hv : W.var? P n = some cs) : W'.var? P n = some cs := by
 unfold World.var? at hv ⊢
 cases hg : P.globalNamed n with
 | none => rw [hg] at hv; cases hv
 | some g =>
  rw [hg] at hv
  simp only [Option.bind_some] at hv ⊢
  cases ho : W.heap[g]? with
  | none => rw [ho] at hv; cases hv
  | some o => rw [ho] at hv; rw [h _ _ ho]; exact hv
theorem trodAll_keep (hl : laidOutB P = true) {sp : Nat → Bool} : ∀ {ts : List TypeId} {vs : List Value} {ds : List (DataW HH)} {ps : List MemPlace}, (∀ t ∈ ts, P.readableRec t = true ∧ t < P.types.size) →
  DataW.TrodAll enc P W 0 (fun _ => true) true ts vs ds ps → (∀ p ∈ ps, W.sameAt W' p) → (∀ p ∈ ps, sp p.block = true) → DataW.TrodAll enc P W' 0 sp true ts vs ds ps
 | [], [], [], _, _, h, _, _ => h
 | t :: ts, v :: vs, d :: ds, ps, ht, ⟨p, q, h1, h2, e⟩, hs, hb => by
  subst e
  exact ⟨p, q, Trod_stays hl (ht t (List.mem_cons_self ..)).1 (ht t (List.mem_cons_self ..)).2 h1 (fun x hx => hs x (List.mem_append_left _ hx)) (fun x hx => hb x (List.mem_append_left _ hx)),
   trodAll_keep hl (fun t h => ht t (List.mem_cons_of_mem _ h)) h2 (fun x hx => hs x (List.mem_append_right _ hx)) (fun x hx => hb x (List.mem_append_right _ hx)), rfl⟩
theorem trodVars_keep (hl : laidOutB P = true) {sp : Nat → Bool} (hE : Ext W W') : ∀ {ns : List String} {gs : List (DataW HH)} {ps : List MemPlace}, (∀ n ∈ ns, ∀ g t, P.globalNamed n = some g → (P.globals[g]?).map (·.type) = some t → P.readableRec t = true ∧ t < P.types.size) →
  DataW.TrodVars enc P W (fun _ => true) ns gs ps → (∀ p ∈ ps, W.sameAt W' p) → (∀ p ∈ ps, sp p.block = true) → DataW.TrodVars enc P W' sp ns gs ps
 | [], [], _, _, h, _, _ => h
 | n :: ns, d :: ds, ps, ht, ⟨g, t, cs, fuel, p, q, h1, h2, h3, h4, h5, e⟩, hs, hb => by
  subst e
  obtain ⟨hr, hrow⟩ := ht n (List.mem_cons_self ..) g t h1 h2
  exact ⟨g, t, cs, fuel, p, q, h1, h2, hE.var h3, DataW.trod_stays (kids_book hl hr) (book_sized hr) (fun h => by cases h) ⟨hrow, book_self t⟩ h4 (fun x hx => hs x (by simp [hx])) (fun x hx => hb x (by simp [hx])),
   trodVars_keep hl hE (fun n h => ht n (List.mem_cons_of_mem _ h)) h5 (fun x hx => hs x (by simp [hx])) (fun x hx => hb x (by simp [hx])), rfl⟩
theorem post_ext {f : Func} {s : ChangeSpec} {apart fresh handsOn : Bool} {args : Array Value} {ds gs : List (DataW HH)} {before : List MemPlace} {tb : TypeId} (hl : laidOutB P = true)
  (hW : DataW.Whole enc P f.params.toList s.vars apart W args.toList ds gs before) (hE : Ext W W') (hos : W'.os = W.os) (hout : W'.output = W.output)
  (hpar : ∀ t ∈ f.params.toList, P.readableRec t = true ∧ t < P.types.size) (hvar : ∀ n ∈ s.vars, ∀ g t, P.globalNamed n = some g → (P.globals[g]?).map (·.type) = some t → P.readableRec t = true ∧ t < P.types.size)
  (hres : f.resultTypes = #[tb]) (hb : P.underlying tb = some .bool) (hfn : s.fn HH (ds ++ gs) = { results := [.lit (.bool true)], args := ds, vars := gs }) :
  s.post enc P f apart fresh handsOn false W args (.bool true) W' := by
 have hlt := hW.lt
 have hW2 := hW
 obtain ⟨p, q, h1, h2, rfl, hz, hn⟩ := hW2
 have hs : ∀ x ∈ p ++ q, W.sameAt W' x := fun x hx => hE.same (hlt x hx)
 have hsp : ∀ x ∈ p ++ q, (fun b => decide (b < W.heap.size)) x.block = true := fun x hx => by simpa using hlt x hx
 refine ⟨ds, gs, p ++ q, [], p, q, hW, ?_, ?_, ?_, ⟨hos, hout, fun i hi => ?_⟩, fun h => by cases h⟩
 ·rw [hres, hfn]
  exact trodAll_mk1 (shut_bool hb _)
 ·rw [hfn]
  exact trodAll_keep hl hpar h1 (fun x hx => hs x (List.mem_append_left _ hx)) (fun x hx => hsp x (List.mem_append_left _ hx))
 ·rw [hfn]
  exact trodVars_keep hl hE hvar h2 (fun x hx => hs x (List.mem_append_right _ hx)) (fun x hx => hsp x (List.mem_append_right _ hx))
 ·obtain ⟨o, ho⟩ : ∃ o, W.heap[i]? = some o := ⟨_, Array.getElem?_eq_getElem hi⟩
  rw [ho, hE _ _ ho]
  cases o <;> simp
end
theorem calls_of_spc {P : Program} {f : FuncId} {args : Array Value} {W : World} {post : Value → Env → List Blk → Prop} (h : Spc P f args (envW W) [] post) (hp : ∀ v Γ H, post v Γ H → v = .bool true) :
  Calls P f args W (fun e W' => e = .returned (.bool true) ∧ Ext W W' ∧ W'.os = W.os ∧ W'.output = W.output) :=
 (h.go W (envW_st W)).mono fun e W' ⟨v, Γ', H', he, hle, hst, hq⟩ => by
  have := hp v Γ' H' hq
  subst this
  exact ⟨he, fun b o hb => hst.imm b o (hle.imm b o hb), hst.os.trans hle.os, hst.output.trans hle.output⟩
end Go.Proofs.YtbgkbgoonjkghaaGreatDoor
namespace Go.Proofs.YtbgkbgoonjkghaaGreatDoor
open Go Go.Sl Go.ChangeShapes Go.WideShapes Go.ChangeMaps Go.WideElems Go.RowKit
set_option maxRecDepth 100000
set_option maxHeartbeats 4000000
theorem own : ownKnob Tryz.prog.godebug = none := by kernel_rfl
theorem laidOut_ok : laidOutB Tryz.prog = true := by kernel_rfl
theorem door_met (os : Os) (args : Array Value) : laidMetH Tryz.prog laidAll ((World.doorLaid Tryz.prog 400 os).forCall (fun _ _ => 0) ⟨#[], args, []⟩).memory :=
 laidMetH_of_parts3 (fuel := 8) (laidMet_of_run' 8 (by kernel_rfl) (by kernel_rfl)) (by kernel_rfl) (by kernel_rfl)
noncomputable def readableVar (n : String) : Bool := match Tryz.prog.globalNamed n with
 | some g => match Tryz.prog.globals[g]? with
  | some x => Tryz.prog.readableRec x.type && decide (x.type < Tryz.prog.types.size)
  | none => true
 | none => true
theorem readableVar_ok {ns : List String} (h : ns.all readableVar = true) : ∀ n ∈ ns, ∀ g t, Tryz.prog.globalNamed n = some g → (Tryz.prog.globals[g]?).map (·.type) = some t → Tryz.prog.readableRec t = true ∧ t < Tryz.prog.types.size := fun n hn g t hg ht => by
 have h1 := List.all_eq_true.1 h n hn
 unfold readableVar at h1
 rw [hg] at h1
 simp only at h1
 cases hx : Tryz.prog.globals[g]? with
 | none => rw [hx] at ht; cases ht
 | some x =>
  rw [hx] at ht h1
  injection ht with ht
  simp only [Bool.and_eq_true, decide_eq_true_eq] at h1
  rw [← ht]; exact h1
theorem readablePar_ok {ts : List TypeId} (h : (ts.all fun t => Tryz.prog.readableRec t && decide (t < Tryz.prog.types.size)) = true) : ∀ t ∈ ts, Tryz.prog.readableRec t = true ∧ t < Tryz.prog.types.size := fun t ht => by
 have := List.all_eq_true.1 h t ht
 simpa using this
theorem trodVars_len {HH : Type} {enc : TypeId × Value → HH} {P : Program} {W : World} {sp : Nat → Bool} : ∀ {ns : List String} {gs : List (DataW HH)} {ps : List MemPlace}, DataW.TrodVars enc P W sp ns gs ps → gs.length = ns.length
 | [], [], _, _ => rfl
 | _ :: ns, _ :: gs, _, ⟨_, _, _, _, _, _, _, _, _, _, h, _⟩ => by rw [List.length_cons, trodVars_len h, List.length_cons]
section
variable {HH : Type} {enc : TypeId × Value → HH} {W : World} {base : Nat} {spr : Nat → Bool} {held : Bool} {r : Reach} {b0 : Nat}
theorem openLay {v : Value} {d : DataW HH} {p : List MemPlace} (hv : Value.okWide Tryz.prog W r b0 23 v) (h : DataW.Trod enc Tryz.prog W base spr held 23 v d p) : ∃ l, v = layV l := by
 obtain ⟨cs, rfl, hsz⟩ := okWide_struct Tryz.underlying23 hv
 obtain ⟨n, h⟩ := h
 have hl : cs.toList.length = 5 := by rw [Array.length_toList, hsz]; kernel_rfl
 have f := fld Tryz.underlying23 h
 obtain ⟨cs⟩ := cs
 match cs, hl, f with
 | [c0, c1, c2, c3, c4], _, f =>
  obtain ⟨_, _, g0⟩ := f 0 _ rfl (k := 1) (by kernel_rfl)
  obtain ⟨_, _, g1⟩ := f 1 _ rfl (k := 1) (by kernel_rfl)
  obtain ⟨_, _, g2⟩ := f 2 _ rfl (k := 1) (by kernel_rfl)
  obtain ⟨_, _, g3⟩ := f 3 _ rfl (k := 1) (by kernel_rfl)
  obtain ⟨_, _, g4⟩ := f 4 _ rfl (k := 1) (by kernel_rfl)
  obtain ⟨z0, e0, -, -⟩ := DataW.trod_int Tryz.underlying3 g0
  obtain ⟨b1, e1, -⟩ := DataW.trod_bool Tryz.underlying4 g1
  obtain ⟨z2, e2, -, -⟩ := DataW.trod_int Tryz.underlying3 g2
  obtain ⟨b3, e3, -⟩ := DataW.trod_bool Tryz.underlying4 g3
  obtain ⟨b4, e4, -⟩ := DataW.trod_bool Tryz.underlying4 g4
  injection e0 with e0; injection e1 with e1; injection e2 with e2; injection e3 with e3; injection e4 with e4
  subst e0 e1 e2 e3 e4
  exact ⟨⟨z0, b1, z2, b3, b4⟩, rfl⟩
end
end Go.Proofs.YtbgkbgoonjkghaaGreatDoor
namespace Go.Proofs.YtbgkbgoonjkghaaGreatDoor
open Go Go.Sl Go.ChangeShapes Go.WideShapes Go.ChangeMaps Go.WideElems Go.RowKit
set_option maxRecDepth 100000
set_option maxHeartbeats 4000000
section
variable {HH : Type} {enc : TypeId × Value → HH} {W : World} {base : Nat} {spr : Nat → Bool} {held : Bool} {r : Reach} {b0 : Nat}
theorem readInt {n : Nat} {cs : List Value} {x : DataW HH × List MemPlace} (h : DataW.trod enc Tryz.prog W base spr held n 3 cs = some x) : ∃ a, NumC a cs := by
 obtain ⟨k, rfl, -, -⟩ := DataW.trod_int Tryz.underlying3 h
 exact ⟨k, rfl⟩
theorem readMem {n : Nat} {cs : List Value} {x : DataW HH × List MemPlace} (h : DataW.trod enc Tryz.prog W base spr held n 93 cs = some x) : ∃ a, MemC a cs := by
 have hl : cs.length = 3 := (fldLen Tryz.underlying93 h).trans (by kernel_rfl)
 have f := fld Tryz.underlying93 h
 match cs, hl with
 | [c0, c1, c2], _ =>
  obtain ⟨_, _, g0⟩ := f 0 _ rfl (k := 1) (by kernel_rfl)
  obtain ⟨_, _, g1⟩ := f 1 _ rfl (k := 1) (by kernel_rfl)
  obtain ⟨_, _, g2⟩ := f 2 _ rfl (k := 1) (by kernel_rfl)
  obtain ⟨z0, e0, -, -⟩ := DataW.trod_string Tryz.underlying9 g0
  obtain ⟨z1, e1, -, -⟩ := DataW.trod_int Tryz.underlying3 g1
  obtain ⟨z2, e2, -, -⟩ := DataW.trod_int Tryz.underlying3 g2
  injection e0 with e0; injection e1 with e1; injection e2 with e2
  subst e0 e1 e2
  exact ⟨⟨z0, z1, z2⟩, rfl⟩
theorem readCon {n : Nat} {cs : List Value} {x : DataW HH × List MemPlace} (h : DataW.trod enc Tryz.prog W base spr held n 95 cs = some x) : ∃ a, ConC a cs := by
 have hl : cs.length = 2 := (fldLen Tryz.underlying95 h).trans (by kernel_rfl)
 have f := fld Tryz.underlying95 h
 match cs, hl with
 | [c0, c1], _ =>
  obtain ⟨_, _, g0⟩ := f 0 _ rfl (k := 1) (by kernel_rfl)
  obtain ⟨_, _, g1⟩ := f 1 _ rfl (k := 1) (by kernel_rfl)
  obtain ⟨z0, e0, -, -⟩ := DataW.trod_string Tryz.underlying9 g0
  obtain ⟨z1, e1, -, -⟩ := DataW.trod_int Tryz.underlying3 g1
  injection e0 with e0; injection e1 with e1
  subst e0 e1
  exact ⟨⟨z0, z1⟩, rfl⟩
theorem readDef {n : Nat} {cs : List Value} {x : DataW HH × List MemPlace} (h : DataW.trod enc Tryz.prog W base spr held n 49 cs = some x) : ∃ a, DfC (envW W) a cs := by
 have hl : cs.length = 11 := (fldLen Tryz.underlying49 h).trans (by kernel_rfl)
 have f := fld Tryz.underlying49 h
 match cs, hl with
 | [c0, c1, c2, c3, c4, c5, c6, c7, c8, c9, c10], _ =>
  obtain ⟨_, _, g0⟩ := f 0 _ rfl (k := 1) (by kernel_rfl)
  obtain ⟨_, _, g1⟩ := f 1 _ rfl (k := 1) (by kernel_rfl)
  obtain ⟨_, _, g2⟩ := f 2 _ rfl (k := 1) (by kernel_rfl)
  obtain ⟨_, _, g3⟩ := f 3 _ rfl (k := 1) (by kernel_rfl)
  obtain ⟨_, _, g4⟩ := f 4 _ rfl (k := 1) (by kernel_rfl)
  obtain ⟨_, _, g5⟩ := f 5 _ rfl (k := 1) (by kernel_rfl)
  obtain ⟨_, _, g6⟩ := f 6 _ rfl (k := 1) (by kernel_rfl)
  obtain ⟨_, _, g7⟩ := f 7 _ rfl (k := 1) (by kernel_rfl)
  obtain ⟨_, _, g8⟩ := f 8 _ rfl (k := 1) (by kernel_rfl)
  obtain ⟨_, _, g9⟩ := f 9 _ rfl (k := 1) (by kernel_rfl)
  obtain ⟨_, _, g10⟩ := f 10 _ rfl (k := 1) (by kernel_rfl)
  obtain ⟨z0, e0, -, -⟩ := DataW.trod_int Tryz.underlying3 g0
  obtain ⟨z1, e1, -, -⟩ := DataW.trod_string Tryz.underlying9 g1
  obtain ⟨z2, e2, -, -⟩ := DataW.trod_int Tryz.underlying3 g2
  obtain ⟨z3, e3, -, -⟩ := DataW.trod_int Tryz.underlying3 g3
  obtain ⟨z4, e4, -, -⟩ := DataW.trod_int Tryz.underlying3 g4
  obtain ⟨v5, z5, e5, hA5⟩ := read_slice (P1 := NumC) (w := 1) Tryz.underlying31 (by kernel_rfl) (by decide) (fun _ _ h => NumC.len h) (fun _ _ _ h => readInt h) g5
  obtain ⟨z6, e6, -⟩ := DataW.trod_bool Tryz.underlying4 g6
  obtain ⟨z7, e7, -⟩ := DataW.trod_bool Tryz.underlying4 g7
  obtain ⟨v8, z8, e8, hA8⟩ := read_slice (P1 := MemC) (w := 3) Tryz.underlying43 (by kernel_rfl) (by decide) (fun _ _ h => MemC.len h) (fun _ _ _ h => readMem h) g8
  obtain ⟨v9, z9, e9, hA9⟩ := read_slice (P1 := NumC) (w := 1) Tryz.underlying31 (by kernel_rfl) (by decide) (fun _ _ h => NumC.len h) (fun _ _ _ h => readInt h) g9
  obtain ⟨v10, z10, e10, hA10⟩ := read_slice (P1 := ConC) (w := 2) Tryz.underlying44 (by kernel_rfl) (by decide) (fun _ _ h => ConC.len h) (fun _ _ _ h => readCon h) g10
  injection e0 with e0; injection e1 with e1; injection e2 with e2; injection e3 with e3; injection e4 with e4; injection e5 with e5; injection e6 with e6; injection e7 with e7; injection e8 with e8; injection e9 with e9; injection e10 with e10
  subst e0 e1 e2 e3 e4 e5 e6 e7 e8 e9 e10
  exact ⟨⟨z0, z1, z2, z3, z4, z5, z6, z7, z8, z9, z10⟩, _, _, _, _, rfl, hA5, hA8, hA9, hA10⟩
theorem openDefs {v : Value} {d : DataW HH} {p : List MemPlace} (hv : Value.okWide Tryz.prog W r b0 24 v) (h : DataW.Trod enc Tryz.prog W base spr held 24 v d p) : ∃ ys, Arr (envW W) (DfC (envW W)) v ys := by
 obtain ⟨a, n, c, rfl⟩ := okWide_slice Tryz.underlying24 hv
 obtain ⟨n, h⟩ := h
 obtain ⟨v, ys, e, hA⟩ := read_slice (P1 := DfC (envW W)) (w := 11) Tryz.underlying24 (by kernel_rfl) (by decide) (fun _ _ h => h.len) (fun _ _ _ h => readDef h) h
 injection e with e
 subst e
 exact ⟨ys, hA⟩
theorem openInts {v : Value} {d : DataW HH} {p : List MemPlace} (hv : Value.okWide Tryz.prog W r b0 31 v) (h : DataW.Trod enc Tryz.prog W base spr held 31 v d p) : ∃ ys, Arr (envW W) NumC v ys := by
 obtain ⟨a, n, c, rfl⟩ := okWide_slice Tryz.underlying31 hv
 obtain ⟨n, h⟩ := h
 obtain ⟨v, ys, e, hA⟩ := read_slice (P1 := NumC) (w := 1) Tryz.underlying31 (by kernel_rfl) (by decide) (fun _ _ h => NumC.len h) (fun _ _ _ h => readInt h) h
 injection e with e
 subst e
 exact ⟨ys, hA⟩
end
end Go.Proofs.YtbgkbgoonjkghaaGreatDoor
namespace Go.Proofs.YtbgkbgoonjkghaaGreatDoor
open Go Go.Sl
set_option maxRecDepth 10000
set_option maxHeartbeats 40000000
def SzR (z : Int) (r : Value) : Prop := ∃ (s : Int) (kn : Bool), r = .tuple #[.int .i64 s, .bool kn] ∧ (kn = true → s = z)
section
variable {Γ : Env} {l : Lay} {ds : List Df}
theorem szArr_ok {v : Value} {d : Df} {c : List Value} (hD : DfC Γ d c) (hcl : d.cnts.length ≤ 4) (ih : ∀ H, Spc Tryz.prog 25 #[layV l, v, .int .i64 d.of] Γ H (fun r Γ' H' => Γ = Γ' ∧ H = H' ∧ SzR (szJ l ds d.of) r)) :
  ∀ (m q : Nat), m = d.cnts.length - q → q ≤ d.cnts.length → ∀ H, Spc Tryz.prog 37 #[layV l, v, .agg c.toArray, .int .i64 ((q : Nat) : Int)] Γ H (fun r Γ' H' => Γ = Γ' ∧ H = H' ∧ SzR (szA (szJ l ds d.of) (d.cnts.drop q)) r) := by
 obtain ⟨v1, v2, v3, v4, rfl, ⟨a1, p1, l1, rfl, hp1, hI1, hL1⟩, ⟨a2, p2, l2, rfl, -, -, -⟩, ⟨a3, p3, l3, rfl, -, -, -⟩, ⟨a4, p4, l4, rfl, -, -, -⟩⟩ := hD
 intro m
 induction m with
 | zero =>
  intro q hm hq H
  have eq : q = d.cnts.length := by omega
  subst eq
  refine Spc.body4 Tryz.func37 rfl Tryz.ntmps37 rfl ?_
  refine WC.seq ?_
  refine WC.region ?_
  (refine WL.box rfl spi_ rfl ?_; intro b4)
  (refine WL.box rfl spi_ rfl ?_; intro b6)
  refine hz_ ?_
  rw [beq_self_eq_true]
  refine hz_ ?_
  refine WL.call rfl Tryz.call25 rfl rfl (by exact (ih _)) ?_
  rintro _ _ _ - ⟨rfl, rfl, s, kn, rfl, hs⟩
  refine hz_ ?_
  refine WE.drop (b := b4) pk_ ?_
  refine WE.drop (b := b6) pk_ ?_
  exact end_2 rfl rfl rfl (Env.le.rfl' _) ⟨rfl, rfl, s, kn, rfl, fun h => by rw [hs h, List.drop_length]; rfl⟩
 | succ m ihm =>
  intro q hm hq H
  have hql : q < d.cnts.length := by omega
  obtain ⟨z, hz⟩ : ∃ z, d.cnts[q]? = some z := ⟨_, List.getElem?_eq_getElem hql⟩
  obtain ⟨bb, oo, cc, rfl, hP, hc⟩ := elemA hI1 hL1 (fun _ _ h => NumC.len h) (w := 1) (by decide) hz
  cases hP
  have hc0 := hc.1
  have hne : (((q : Nat) : Int) == (d.cnts.length : Int)) = false := beq_eq_false_iff_ne.2 (by omega)
  have hwq : IntKind.i64.wrap (((q : Nat) : Int) + 1) = ((q + 1 : Nat) : Int) := by rw [w_i64 (by omega) (by omega)]; omega
  have hdr : d.cnts.drop q = z :: d.cnts.drop (q + 1) := by
   rw [List.drop_eq_getElem_cons hql]
   congr 1
   rw [List.getElem?_eq_getElem hql] at hz
   injection hz
  refine Spc.body4 Tryz.func37 rfl Tryz.ntmps37 rfl ?_
  refine WC.seq ?_
  refine WC.region ?_
  (refine WL.box rfl spi_ rfl ?_; intro b4)
  (refine WL.box rfl spi_ rfl ?_; intro b6)
  refine hz_ ?_
  rw [hne]
  refine hz_ ?_
  rw [hwq]
  refine WL.call rfl Tryz.call37 rfl rfl (by exact (ihm (q + 1) (by omega) (by omega) _)) ?_
  rintro _ _ _ - ⟨rfl, rfl, s, kn, rfl, hs⟩
  refine hz_ ?_
  cases hz0 : decide (z < 0) with
  | true =>
   refine hz_ ?_
   refine WE.drop (b := b4) pk_ ?_
   refine WE.drop (b := b6) pk_ ?_
   exact end_2 rfl rfl rfl (Env.le.rfl' _) ⟨rfl, rfl, 0, false, rfl, fun h => by cases h⟩
  | false =>
  have hz1 := of_decide_eq_false hz0
  refine hz_ ?_
  refine WE.drop (b := b4) pk_ ?_
  refine WE.drop (b := b6) pk_ ?_
  exact end_2 rfl rfl rfl (Env.le.rfl' _) ⟨rfl, rfl, _, kn, rfl, fun h => by
   rw [hs h, hdr]
   conv => rhs; unfold szA
   rw [if_neg (by omega), Int.mul_comm]⟩
theorem szJ_step (hok : OkDs l ds) {n : Int} {d : Df} (h0 : 0 ≤ n) (hd : ds[n.toNat]? = some d) : szJ l ds n = if d.kind = 12 ∨ d.kind = 13 then szJ l ds d.of else if d.kind = 11 then szA (szJ l ds d.of) d.cnts else bySize l d := by
 have hl := (List.getElem?_eq_some_iff.1 hd).1
 have hah := (hok.each _ d hd).d1.ahead
 unfold szJ
 conv => lhs; unfold szF
 rw [if_neg (by omega), hd]
 simp only
 by_cases hk : d.kind = 12 ∨ d.kind = 13
 ·rw [if_pos hk, if_pos hk]
  have := hah (by omega)
  exact szF_stable hok _ _ _ (by omega) (by omega)
 rw [if_neg hk, if_neg hk]
 by_cases h11 : d.kind = 11
 ·rw [if_pos h11, if_pos h11]
  have := hah (by omega)
  rw [szF_stable hok ds.length (ds.length + 1) d.of (by omega) (by omega)]
 rw [if_neg h11, if_neg h11]
theorem szJ_neg {n : Int} (h : n < 0) : szJ l ds n = 0 := by
 unfold szJ szF
 rw [if_pos h]
theorem szD_ok {v : Value} (hok : OkDs l ds) (hX : Arr Γ (DfC Γ) v ds) : ∀ (f : Nat) (n : Int), n < f → n < ds.length → ∀ H, Spc Tryz.prog 25 #[layV l, v, .int .i64 n] Γ H (fun r Γ' H' => Γ = Γ' ∧ H = H' ∧ SzR (szJ l ds n) r) := by
 have hX' := hX
 obtain ⟨a0, p0, l0, rfl, hp0, hI0, hL0⟩ := hX
 intro f
 induction f with
 | zero =>
  intro n hf hn H
  refine Spc.body3 Tryz.func25 rfl Tryz.ntmps25 rfl ?_
  refine WC.seq ?_
  refine WC.region ?_
  (refine WL.box rfl spi_ rfl ?_; intro b3)
  refine hz_ ?_
  refine WC.condT rfl (decide_eq_true (by omega)) ?_
  refine hz_ ?_
  refine WE.drop (b := b3) pk_ ?_
  exact end_2 rfl rfl rfl (Env.le.rfl' _) ⟨rfl, rfl, 0, true, rfl, fun _ => (szJ_neg (by omega)).symm⟩
 | succ f ihf =>
  intro n hf hn H
  refine Spc.body3 Tryz.func25 rfl Tryz.ntmps25 rfl ?_
  refine WC.seq ?_
  refine WC.region ?_
  (refine WL.box rfl spi_ rfl ?_; intro b3)
  refine hz_ ?_
  by_cases h0 : n < 0
  ·refine WC.condT rfl (decide_eq_true h0) ?_
   refine hz_ ?_
   refine WE.drop (b := b3) pk_ ?_
   exact end_2 rfl rfl rfl (Env.le.rfl' _) ⟨rfl, rfl, 0, true, rfl, fun _ => (szJ_neg h0).symm⟩
  refine WC.condF rfl (decide_eq_false h0) ?_
  obtain ⟨j, rfl⟩ : ∃ j : Nat, n = (j : Int) := ⟨n.toNat, by omega⟩
  obtain ⟨d, hd⟩ : ∃ d, ds[j]? = some d := ⟨_, List.getElem?_eq_getElem (by omega)⟩
  have hst := szJ_step hok (n := (j : Int)) (by omega) (d := d) (by rw [Int.toNat_natCast]; exact hd)
  have hO := hok.each j d hd
  have hah := hO.d1.ahead
  have hk1 := hO.k1
  have hk16 := hO.k16
  have hof := hO.d0.of1
  have hcl := hO.d0.cntl
  obtain ⟨bb, oo, cc, rfl, hD, hc⟩ := elemA hI0 hL0 (fun _ _ h => h.len) (w := 11) (by decide) hd
  have hD' := hD
  obtain ⟨v1, v2, v3, v4, rfl, ⟨a1, p1, l1, rfl, -, -, -⟩, ⟨a2, p2, l2, rfl, -, -, -⟩, ⟨a3, p3, l3, rfl, -, -, -⟩, ⟨a4, p4, l4, rfl, -, -, -⟩⟩ := hD
  refine hz_ ?_
  (refine WL.alloc tab_ok rfl rfl ?_; intro b8)
  refine hz_ ?_
  by_cases e9 : d.kind = 9
  ·rw [show (d.kind == 9) = true from beq_iff_eq.2 e9]
   refine hz_ ?_
   refine WE.drop (b := b3) pk_ ?_
   refine WE.drop (b := b8) pk_ ?_
   exact end_2 rfl rfl rfl (Env.le.rfl' _) ⟨rfl, rfl, _, true, rfl, fun _ => by
    rw [hst, if_neg (by omega), if_neg (by omega)]; unfold bySize; rw [if_pos e9]⟩
  rw [show (d.kind == 9) = false from beq_eq_false_iff_ne.2 e9]
  refine hz_ ?_
  by_cases e12 : d.kind = 12
  ·rw [show (d.kind == 12) = true from beq_iff_eq.2 e12]
   refine hz_ ?_
   refine WL.call rfl Tryz.call25 rfl rfl (by exact (ihf d.of (by have := hah (.inl e12); omega) hof _)) ?_
   rintro _ _ _ - ⟨rfl, rfl, s, kn, rfl, hs⟩
   refine hz_ ?_
   refine WE.drop (b := b3) pk_ ?_
   refine WE.drop (b := b8) pk_ ?_
   exact end_2 rfl rfl rfl (Env.le.rfl' _) ⟨rfl, rfl, s, kn, rfl, fun h => by rw [hst, if_pos (.inl e12)]; exact hs h⟩
  rw [show (d.kind == 12) = false from beq_eq_false_iff_ne.2 e12]
  refine hz_ ?_
  by_cases e13 : d.kind = 13
  ·rw [show (d.kind == 13) = true from beq_iff_eq.2 e13]
   refine hz_ ?_
   refine WL.call rfl Tryz.call25 rfl rfl (by exact (ihf d.of (by have := hah (.inr (.inr e13)); omega) hof _)) ?_
   rintro _ _ _ - ⟨rfl, rfl, s, kn, rfl, hs⟩
   refine hz_ ?_
   refine WE.drop (b := b3) pk_ ?_
   refine WE.drop (b := b8) pk_ ?_
   exact end_2 rfl rfl rfl (Env.le.rfl' _) ⟨rfl, rfl, s, kn, rfl, fun h => by rw [hst, if_pos (.inr e13)]; exact hs h⟩
  rw [show (d.kind == 13) = false from beq_eq_false_iff_ne.2 e13]
  refine hz_ ?_
  by_cases e11 : d.kind = 11
  ·rw [show (d.kind == 11) = true from beq_iff_eq.2 e11]
   refine hz_ ?_
   refine WL.call rfl Tryz.call37 rfl rfl (by exact (szArr_ok hD' hcl (fun H => ihf d.of (by have := hah (.inr (.inl e11)); omega) hof H) d.cnts.length 0 rfl (Nat.zero_le _) _)) ?_
   rintro _ _ _ - ⟨rfl, rfl, s, kn, rfl, hs⟩
   refine hz_ ?_
   refine WE.drop (b := b3) pk_ ?_
   refine WE.drop (b := b8) pk_ ?_
   exact end_2 rfl rfl rfl (Env.le.rfl' _) ⟨rfl, rfl, s, kn, rfl, fun h => by rw [hst, if_neg (by omega), if_pos e11]; exact hs h⟩
  rw [show (d.kind == 11) = false from beq_eq_false_iff_ne.2 e11]
  refine hz_ ?_
  rw [if_neg (by omega), if_neg (by omega)] at hst
  by_cases e15 : d.kind = 15
  ·rw [show (d.kind == 15) = true from beq_iff_eq.2 e15]
   refine hz_ ?_
   refine WE.drop (b := b3) pk_ ?_
   refine WE.drop (b := b8) pk_ ?_
   exact end_2 rfl rfl rfl (Env.le.rfl' _) ⟨rfl, rfl, 0, false, rfl, fun h => by cases h⟩
  rw [show (d.kind == 15) = false from beq_eq_false_iff_ne.2 e15]
  refine hz_ ?_
  by_cases e16 : d.kind = 16
  ·rw [show (d.kind == 16) = true from beq_iff_eq.2 e16]
   refine hz_ ?_
   refine WE.drop (b := b3) pk_ ?_
   refine WE.drop (b := b8) pk_ ?_
   exact end_2 rfl rfl rfl (Env.le.rfl' _) ⟨rfl, rfl, 0, false, rfl, fun h => by cases h⟩
  rw [show (d.kind == 16) = false from beq_eq_false_iff_ne.2 e16]
  refine hz_ ?_
  by_cases e10 : d.kind = 10
  ·rw [show (d.kind == 10) = true from beq_iff_eq.2 e10]
   refine hz_ ?_
   refine WC.draw 7 (.take 0 (.take 1 (.take 2 (.take 3 (.take 4 (.one 5 (.one 6 .done))))))) ((b8, cel [.int .i64 d.kind, .string d.name, .int .i64 d.which, .int .i64 d.size, .int .i64 d.of, .slice a1 d.cnts.length p1, .bool d.upper, .bool d.inc, .slice a2 d.mems.length p2, .slice a3 d.pars.length p3, .slice a4 d.cons.length p4] 49) :: []) mixed hsb_ (by decide +kernel) ?_
   repeat' (first | (refine WD.g ?_; first | refine WD.one rfl ?_ | refine WD.done ?_ | (refine WD.gTake ?_; first | (refine WD.run tab_ok ?_ rfl rfl ?_; (focus (exact np_))) | (refine WD.at_ rfl ?_; (first | (refine WT.gLoad ?_; first | (apply WT.load; exact np_; exact rfl; exact rfl; exact hld_) | (apply WT.loadG; exact np_; exact rfl; exact rfl; exact rfl; exact hld_)) | (refine WT.gIdx ?_; first | (refine WT.idx tab_ok ?_ rfl rfl rfl rfl rfl ?_ ?_ ?_; (focus (exact np_)); (focus omega); (focus omega)) | (refine WT.idxG tab_ok ?_ rfl rfl rfl rfl rfl rfl ?_ ?_ ?_; (focus (exact np_)); (focus omega); (focus omega))) | (refine WT.gSlice ?_; refine WT.slLo tab_ok ?_ rfl rfl rfl rfl rfl ?_ ?_ ?_ ?_; (focus (exact np_)); (focus omega); (focus omega); (focus omega)) | (refine WT.gBuild ?_; refine WT.build tab_ok np_ rfl rfl spi_ ?_) | (refine WT.pure tab_ok ?_ rfl rfl ?_; (focus (exact np_))) | (refine WT.pureG tab_ok ?_ rfl rfl rfl ?_; (focus (exact np_))) | (refine WT.noG ?_ rfl rfl rfl ?_; (focus (exact np_))))))) | (refine WL.g ?_; first | refine WL.nil ?_ | refine WL.run tab_ok rfl rfl ?_ | (refine WL.gLoad ?_; first | refine WL.ld tab_ok rfl rfl rfl pk_ rfl rfl ?_ | refine WL.ldA tab_ok rfl rfl rfl pk_ cut_ rfl ?_ | refine WL.ldI tab_ok rfl rfl rfl (by assumption) rfl ?_ | refine WL.ldR tab_ok rfl rfl rfl hrd_ rfl ?_ | refine WL.ldAI tab_ok rfl rfl rfl (by assumption) rfl rfl ?_) | (refine WL.gStore ?_; refine WL.st tab_ok rfl rfl rfl pk_ spl_ rfl rfl ?_) | (refine WL.gIdx ?_; refine WL.idx tab_ok rfl rfl rfl rfl (by omega) (by omega) rfl ?_) | (refine WL.gBuild ?_; refine WL.build tab_ok rfl spi_ rfl ?_) | (refine WL.gSlice ?_; first | refine WL.slLo tab_ok rfl rfl rfl rfl (by omega) (by omega) (by omega) rfl ?_ | refine WL.slHi tab_ok rfl rfl rfl rfl (by omega) (by omega) rfl ?_ | refine WL.slLH tab_ok rfl rfl rfl rfl rfl (by omega) (by omega) (by omega) rfl ?_) | (refine WL.gBin ?_; first | refine WL.pure tab_ok (evalP_shl rfl rfl (by omega)) rfl ?_ | refine WL.pure tab_ok (evalP_shr rfl rfl (by omega)) rfl ?_) | refine WL.pure tab_ok rfl rfl ?_ | (refine WL.gGuard ?_; first | refine WL.yes rfl rfl rfl ?_ | refine WL.no rfl rfl rfl rfl rfl ?_ | refine WL.noU rfl rfl rfl rfl ?_)) | (refine WE.g ?_; first | refine WE.then_ ?_ | refine WE.thenX rfl ?_ | refine WE.block_n ?_ | refine WE.block_x ?_ | refine WE.block_y rfl ?_ | refine WE.block_r ?_ | apply WE.drawnL | (apply WE.drawn; exact (by first | exact Env.le.rfl' _ | assumption); exact hsb_) | refine WE.ng_n ?_ | refine WE.ng_r ?_ | refine WE.ng_x ?_ | refine WE.np_n ?_ | refine WE.np_r ?_ | refine WE.np_x ?_) | refine WD.two rfl rfl ?_ ?_)
   all_goals refine hz_ ?_
   all_goals refine WE.drop (b := b3) pk_ ?_
   all_goals refine WE.drop (b := b8) pk_ ?_
   all_goals exact end_2 rfl rfl rfl (Env.le.rfl' _) ⟨rfl, rfl, d.size, !d.inc, rfl, fun h => by rw [hst]; unfold bySize; rw [if_neg (by omega), if_pos e10]; cases hi : d.inc with
    | true => rw [hi] at h; cases h
    | false => rfl⟩
  rw [show (d.kind == 10) = false from beq_eq_false_iff_ne.2 e10]
  refine hz_ ?_
  refine WE.drop (b := b3) pk_ ?_
  refine WE.drop (b := b8) pk_ ?_
  exact end_2 rfl rfl rfl (Env.le.rfl' _) ⟨rfl, rfl, d.size, true, rfl, fun _ => by rw [hst]; unfold bySize; rw [if_neg e9, if_neg e10, if_pos (by omega)]⟩
end
end Go.Proofs.YtbgkbgoonjkghaaGreatDoor
namespace Go.Sl
open Go
section
variable {P : Program} {ops : Array Oper} {Q : Post} {n : Nat} {D : List Deferred} {R : Regs} {Γ : Env} {H : List Blk} {rest : List Oper}
variable {ty : TypeId} {pos : String} {aft : Array Edge}
theorem setAll_len : ∀ (vs : List Value) (k : Nat) (l : List Value), (setAll k vs l).length = l.length
 | [], _, _ => rfl
 | v :: vs, k, l => by
  simp only [setAll]
  rw [setAll_len vs (k + 1), List.length_set]
theorem setAll_left : ∀ (vs : List Value) (k : Nat) (l sp : List Value), k + vs.length ≤ l.length → setAll k vs (l ++ sp) = setAll k vs l ++ sp
 | [], _, _, _, _ => rfl
 | v :: vs, k, l, sp, h => by
  simp only [List.length_cons] at h
  simp only [setAll]
  rw [List.set_append_left _ _ (by omega), setAll_left vs (k + 1) _ _ (by rw [List.length_set]; omega)]
theorem WL.owPut {T : Tab} (hT : TabOk P T) {t : TypeId} {x y : Operand} {j : TI} {a : Option Addr} {k cap s i bb oo : Nat} {l : List Value} {v : Value} {Hs F : List Blk}
  (hx : ev R x = some (.pointer (some ⟨bb, oo, none⟩))) (hy : ev R y = some v) (hj : T.get t = some j) (how : Ow s (.slice a k cap) k l Hs) (hH : Tk H Hs F) (ha : a = some ⟨bb, 0, none⟩) (hi : i < k) (ho : oo = i * s) (hv : (vcells v).length = s)
  (hz : Nat.beq (llen (vcells v)) j.size = true) (hone : oneAll (vcells v) = true)
  (K : ∀ Hs', Ow s (.slice a k cap) k (setAll (i * s) (vcells v) l) Hs' → WL P ops Q n D rest R Γ (Hs' ++ F)) : WL P ops Q n D (⟨none, .store t x y, ty, pos, aft, none⟩ :: rest) R Γ H := by
 cases how with
 | nil => omega
 | @row b _ _ _ sp T2 fz h1 h2 h3 hfz =>
  injection ha with ha; injection ha with hb
  subst hb ho
  have hil : i * s + s ≤ k * s := by
   have := Nat.mul_le_mul_right s (show i + 1 ≤ k by omega)
   rw [Nat.succ_mul] at this; exact this
  have hsl : (setAll (i * s) (vcells v) l).length = l.length := setAll_len _ _ _
  refine WL.re' (H' := (b, celF (l ++ sp) T2 fz) :: F) (fun w hs => hs.perm hH.perm) ?_
  refine WL.stN (l' := setAll (i * s) (vcells v) l ++ sp) hT hx hy hj (.here) hfz (by rw [List.length_append]; omega) (setAll_left _ _ _ _ (by omega)) hz hone ?_
  exact K [(b, celF (setAll (i * s) (vcells v) l ++ sp) T2 fz)] (Ow.row h1 (by rw [hsl]; exact h2) (by rw [hsl]; exact h3) (by rw [List.length_append, hsl, ← List.length_append]; exact hfz))
end
end Go.Sl
namespace Go.Proofs.YtbgkbgoonjkghaaGreatDoor
open Go Go.Sl
set_option maxRecDepth 10000
set_option maxHeartbeats 40000000
theorem LisC.setAll {α : Type} {P : α → List Value → Prop} {w : Nat} (hw : ∀ x c, P x c → c.length = w) {xs : List α} {cs : List Value} {i : Nat} {y : α} {c' : List Value} (h : LisC P xs cs) (hi : i < xs.length) (hy : P y c') : LisC P (xs.set i y) (Go.Sl.setAll (i * w) c' cs) := by
 obtain ⟨p, c, q, rfl, h2, h3, h4⟩ := LisC.set hw h hi
 rw [← h2, setAll_mid (by rw [hw _ _ hy, h3])]
 exact h4 y c' hy
structure RelT (x : Ty) (y : Ty × Bool) : Prop where
 eq : y.1 = { x with size := y.1.size }
 kn : y.2 = true → y.1.size = x.size
def BolC (b : Bool) (c : List Value) : Prop := c = [.bool b]
theorem BolC.len {b : Bool} {c : List Value} (h : BolC b c) : c.length = 1 := by rw [h]; rfl
abbrev TT := List (Ty × Bool)
def ToldR (Γ : Env) (T : TT) (tv : Value) (Ht : List Blk) : Prop := ∃ cells, Ow 10 tv T.length cells Ht ∧ LisC (TyC Γ) (T.map Prod.fst) cells
def KnowR (T : TT) (kv : Value) (Hk : List Blk) : Prop := ∃ cells, Ow 1 kv T.length cells Hk ∧ LisC BolC (T.map Prod.snd) cells
structure TlR (Γ : Env) (ds : List Df) (S : TSt) (T : TT) (tv kv : Value) (Ht Hk : List Blk) (ge : List MapEntry) : Prop where
 len : S.told.length = S.seen.length
 lenT : T.length = S.told.length
 rel : ∀ (i : Nat) (x : Ty) (y : Ty × Bool), S.told[i]? = some x → T[i]? = some y → RelT x y
 keys : keysOf .i64 ge
 map : ∀ j : Nat, (mfind (j : Int) ge 0).map Prod.snd = (ixOf (j, 0) S.seen 0).map fun k => Value.int .i64 (k : Int)
 clo : ∀ j q : Nat, (j, q + 1) ∈ S.seen → (j, q) ∈ S.seen
 told : ToldR Γ T tv Ht
 known : KnowR T kv Hk
 few : S.seen.length + missN ds S.seen ≤ 1000
theorem TlR.mono {Γ Γ' : Env} (hle : Γ.le Γ') {ds : List Df} {S : TSt} {T : TT} {tv kv : Value} {Ht Hk : List Blk} {ge : List MapEntry} (h : TlR Γ ds S T tv kv Ht Hk ge) : TlR Γ' ds S T tv kv Ht Hk ge := by
 obtain ⟨h1, h2, h3, h4, h5, h6, ⟨cells, h7, h8⟩, h9, h10⟩ := h
 exact ⟨h1, h2, h3, h4, h5, h6, ⟨cells, h7, h8.imp fun _ _ h => h.mono hle⟩, h9, h10⟩
abbrev TlH (l : Lay) (vd : Value) (pt pq : Nat) (tv kv : Value) (ge : List MapEntry) (gc : Nat) (Ht Hk F : List Blk) : List Blk := (pt, cel [.int .i64 l.vers, .bool l.wide, .int .i64 l.size, .bool l.big, .bool l.far, vd, .map (some pq), tv, kv] 70) :: (pq, .map ge.toArray gc) :: (Ht ++ (Hk ++ F))
def TlP (l : Lay) (vd : Value) (pt pq : Nat) (ds : List Df) (F : List Blk) (R : TSt × Int) (r : Value) (Γ' : Env) (H' : List Blk) : Prop :=
 ∃ T tv kv Ht Hk ge gc, r = .int .i64 R.2 ∧ TlR Γ' ds R.1 T tv kv Ht Hk ge ∧ H' = TlH l vd pt pq tv kv ge gc Ht Hk F
section
variable {Γ : Env} {l : Lay} {ds : List Df}
theorem tell_ok {vd : Value} {F : List Blk} {a : Option Addr} {k c : Nat} (hvd : vd = .slice a k c) :
  Spc Tryz.prog 10 #[layV l, vd] Γ F (fun r Γ' H' => Γ = Γ' ∧ ∃ pt pq, r = .pointer (some ⟨pt, 0, none⟩) ∧ H' = TlH l vd pt pq nilS nilS [] 0 [] [] F) := by
 subst hvd
 refine Spc.body2 Tryz.func10 rfl Tryz.ntmps10 rfl ?_
 refine WC.seq ?_
 refine WC.region ?_
 (refine WL.box rfl spi_ rfl ?_; intro b2)
 refine hz_ ?_
 (refine WL.makeMap rfl ?_; intro pq)
 refine hz_ ?_
 (refine WL.box rfl spi_ rfl ?_; intro pt)
 refine hz_ ?_
 refine WE.drop (b := b2) pk_ ?_
 exact end_1 rfl rfl (Env.le.rfl' _) ⟨rfl, pt, pq, rfl, rfl⟩
theorem tlR0 (hn1 : ds.length ≤ 200) : TlR Γ ds ⟨[], []⟩ [] nilS nilS [] [] [] := by
 refine ⟨rfl, rfl, fun i x y h => (by simp at h), fun e he => (by cases he), fun j => rfl, fun j q h => (by cases h), ⟨[], Ow.nil, rfl⟩, ⟨[], Ow.nil, rfl⟩, ?_⟩
 have : missN ds [] ≤ ds.length * 5 := by
  unfold missN
  rw [← allN_len]
  exact List.length_filter_le _ _
 simp only [List.length_nil]; omega
theorem room_ok {vd tv kv : Value} {pt pq gc : Nat} {ge : List MapEntry} {Ht Hk F : List Blk} {T : TT} (hn : T.length ≤ 1000) (ht : ToldR Γ T tv Ht) (hk : KnowR T kv Hk) :
  Spc Tryz.prog 23 #[.pointer (some ⟨pt, 0, none⟩)] Γ (TlH l vd pt pq tv kv ge gc Ht Hk F) (fun r Γ' H' => Γ = Γ' ∧ ∃ tv' kv' Ht' Hk', r = .int .i64 (T.length : Int) ∧ ToldR Γ (T ++ [(Ty.nil, false)]) tv' Ht' ∧ KnowR (T ++ [(Ty.nil, false)]) kv' Hk' ∧ H' = TlH l vd pt pq tv' kv' ge gc Ht' Hk' F) := by
 obtain ⟨cells, how, hL⟩ := ht
 obtain ⟨kcells, hok, hkL⟩ := hk
 obtain ⟨a1, c1, rfl⟩ := Ow.shape how
 obtain ⟨a2, c2, rfl⟩ := Ow.shape hok
 refine Spc.body1 Tryz.func23 rfl Tryz.ntmps23 rfl ?_
 refine hz_ ?_
 (refine WL.lit tab_ok rfl rfl rfl rfl rfl rfl rfl spi_ rfl ?_; intro bq)
 refine hz_ ?_
 refine WL.append tab_ok rfl rfl rfl rfl rfl rfl rfl rfl how tk_ ((Ow.lit (s := 10) (b := bq) (k := 1) (l := [.int .i64 0, .string eS, .string eS, .int .i64 0, .int .i64 0, .int .i64 0, .bool false, nilS, nilS, nilS]) (T := 46) rfl).src tab_ok rfl t1_ (TyC.one (Γ := Γ) TyC.nil)) (by omega) (by omega) (fun v5 Hs5 how5 => ?_)
 obtain ⟨a5, c5, rfl⟩ := Ow.shape how5
 refine hz_ ?_
 (refine WL.lit tab_ok rfl rfl rfl rfl rfl rfl rfl spi_ rfl ?_; intro br)
 refine hz_ ?_
 refine WL.append tab_ok rfl rfl rfl rfl rfl rfl rfl rfl hok tk_ ((Ow.lit (s := 1) (b := br) (k := 1) (l := [.bool false]) (T := 4) rfl).src tab_ok rfl t1_ (by simp [Value.oneCell'])) (by omega) (by omega) (fun v6 Hs6 how6 => ?_)
 obtain ⟨a6, c6, rfl⟩ := Ow.shape how6
 refine hz_ ?_
 rw [show IntKind.i64.wrap (((T.length + 1 : Nat) : Int) - 1) = (T.length : Int) from by rw [w_i64 (by omega) (by omega)]; omega]
 refine WE.re (H2 := TlH l vd pt pq (.slice a5 (T.length + 1) c5) (.slice a6 (T.length + 1) c6) ge gc Hs5 Hs6 F) sn_ ?_
 refine end_1 rfl rfl (Env.le.rfl' _) ⟨rfl, _, _, Hs5, Hs6, rfl, ⟨_, by simp only [List.length_append, List.length_singleton]; exact how5, by rw [List.map_append]; exact LisC.append hL (LisC.one TyC.nil)⟩, ⟨_, by simp only [List.length_append, List.length_singleton]; exact how6, by rw [List.map_append]; exact LisC.append hkL (LisC.one rfl)⟩, rfl⟩
end
end Go.Proofs.YtbgkbgoonjkghaaGreatDoor
