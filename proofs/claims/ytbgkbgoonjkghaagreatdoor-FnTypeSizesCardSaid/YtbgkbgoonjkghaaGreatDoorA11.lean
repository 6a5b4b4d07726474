/- Parts of the proof: Dm Dn Dp Dq Dr Ds Dt Du. -/
import Derived.Test.YtbgkbgoonjkghaaGreatDoorA3
import Derived.Test.YtbgkbgoonjkghaaGreatDoorA6
import Derived.Test.YtbgkbgoonjkghaaGreatDoorA10
import Derived.Test.YtbgkbgoonjkghaaGreatDoorA7
namespace Go.Proofs.YtbgkbgoonjkghaaGreatDoor
open Go Go.Sl
set_option maxRecDepth 10000
set_option maxHeartbeats 40000000
section
variable {Γ : Env} {pd pu : Nat} {l : Lay} {ds : List Df}
theorem readerN_ok {H F : List Blk} {ou : Obj} (h : TX Γ pd pu l ds) (hu : UX Γ l ds ou) (hq : Pick H pu ou F) :
  Spc Tryz.prog 43 #[.pointer (some ⟨pd, 0, none⟩)] Γ H (fun v Γ' H' => ∃ pr o ou', v = .pointer (some ⟨pr, 0, none⟩) ∧ RF pd o ∧ UX Γ' l ds ou' ∧ H' = (pr, o) :: (pu, ou') :: F) := by
 obtain ⟨cs, hcs, rfl⟩ := hu
 obtain ⟨p, c0, q, rfl, hp0, ⟨d, r, es, cm, u5, rfl, hd, him, hes⟩, hback⟩ := hcs.get (TX.get (l := l) (ds := ds))
 have hp1 : p = [] := List.eq_nil_of_length_eq_zero (by omega)
 subst hp1
 have hinf := h.inf
 obtain ⟨pre, post, hb, hpl, hD⟩ := die_at (k := 0) h.uni rfl h.inf h.strl h.linl (i := 0) (x := topN) rfl (by decide)
 have hp0 : pre = [] := List.eq_nil_of_length_eq_zero (by rw [hpl]; rfl)
 subst hp0
 have e0 : 0 + (pusB l.big ((pusU l.big 0 0 0 0 [TU l ds]).take 0)).length = 0 := rfl
 rw [e0] at hback
 have hbl : (puAt l.big [TU l ds] 0 (TU l ds)).body.length = (ulebL (abbE 0 topN).code).length + ((itexts (itsAt l.big [TU l ds] 0 (TU l ds) 0 topN)).length + post.length) := by rw [hb, List.nil_append, List.length_append, List.length_append]
 have hd1 := hd
 rw [hb, List.nil_append] at hd1
 have hstep := offU_step (big := l.big) (TX.get (l := l) (ds := ds))
 have hofg := offU_get (big := l.big) (TX.get (l := l) (ds := ds))
 have e1 : (pusU l.big 0 0 0 0 [TU l ds]).take (0 + 1) = pusU l.big 0 0 0 0 [TU l ds] := rfl
 rw [e1] at hstep
 have e2 : (pusB l.big ((pusU l.big 0 0 0 0 [TU l ds]).take 0)).length = 0 := rfl
 rw [e2] at hofg
 have hS := h.secs (F := F)
 rw [e2] at hS
 refine (reader_ok (pu := pu) (c := uctx l.big (strT [TU l ds]) (linT [TU l ds]) 0 (puAt l.big [TU l ds] 0 (TU l ds))) (off1 := 0 + lsz (puAt l.big [TU l ds] 0 (TU l ds)).wide + hsz (puAt l.big [TU l ds] 0 (TU l ds))) (d := d) (r := r) (u5 := u5)
  (vers := (puAt l.big [TU l ds] 0 (TU l ds)).vers) (q := q) (n := 1) h.glob hq hS (.inl h.sl) (by decide) ⟨rfl, h.size, TX.dist, ⟨es, cm, him, hes⟩, _, _, post, hd1, hD, by omega⟩).mono ?_
 rintro _ Γ1 _ hle1 ⟨pr, u5', rfl, rfl⟩
 have hq1 := hback hle1 (c' := uqc 0 (0 + lsz (puAt l.big [TU l ds] 0 (TU l ds)).wide + hsz (puAt l.big [TU l ds] 0 (TU l ds))) d r u5' (puAt l.big [TU l ds] 0 (TU l ds)).size (puAt l.big [TU l ds] 0 (TU l ds)).vers (puAt l.big [TU l ds] 0 (TU l ds)).wide [])
  ⟨d, r, es, cm, u5', rfl, hd.mono hle1, hle1.imm _ _ him, hes.mono hle1⟩
 exact ⟨pr, _, _, rfl, ⟨_, _, _, _, _, _, _, _, _, _, _, 0, rfl⟩, ⟨_, hq1, rfl⟩, rfl⟩
theorem clone_ok {H F F2 : List Blk} {pr i : Nat} {o ou : Obj} (h : TX Γ pd pu l ds) (hu : UX Γ l ds ou) (hp : Pick H pr o F2) (hR : RN Γ pd pu l ds i o) (hq : Pick H pu ou F) :
  Spc Tryz.prog 158 #[.pointer (some ⟨pr, 0, none⟩)] Γ H (fun v Γ' H' => ∃ p2 o2 ou', v = .iface 124 (.pointer (some ⟨p2, 0, none⟩)) ∧ RF pd o2 ∧ UX Γ' l ds ou' ∧ H' = (p2, o2) :: (pu, ou') :: F) := by
 obtain ⟨d, lso, lu, lc, cu, hd, rfl⟩ := hR
 refine Spc.body1 Tryz.func158 rfl Tryz.ntmps158 rfl ?_
 refine hz_ ?_
 refine WL.call rfl Tryz.call43 rfl rfl (by exact (readerN_ok h hu hq)) ?_
 rintro _ Γ1 _ hle ⟨p2, o2, ou', rfl, hF, hu', rfl⟩
 refine hz_ ?_
 exact end_1 rfl rfl hle ⟨p2, o2, ou', rfl, hF, hu', rfl⟩
theorem addressSize_ok {H F F2 : List Blk} {pr i : Nat} {o ou : Obj} (h : TX Γ pd pu l ds) (hu : UX Γ l ds ou) (hp : Pick H pr o F) (hR : RN Γ pd pu l ds i o) (hq : Pick F pu ou F2) :
  Spc Tryz.prog 155 #[.pointer (some ⟨pr, 0, none⟩)] Γ H (fun v Γ' H' => Γ = Γ' ∧ H' = (pr, o) :: F ∧ v = .int .i64 l.size) := by
 obtain ⟨dU, r, es, c, u5, hdU, him, hes, hrd⟩ := (h.unr hu hq).cell TX.get
 have h5 := hrd 5 _ rfl
 have hsz : (((puAt l.big [TU l ds] 0 (TU l ds)).size : Nat) : Int) = l.size := by
  have := h.ok.lay.sz
  show ((l.size.toNat : Nat) : Int) = _
  omega
 rw [hsz] at h5
 have gsl := h.sl
 obtain ⟨d, lso, lu, lc, cu, hd, rfl⟩ := hR
 refine Spc.perm ?_ hp.perm
 refine Spc.body1 Tryz.func155 rfl Tryz.ntmps155 rfl ?_
 have e9 : 0 + Int.toNat ((0 : Nat) : Int) * 9 = 0 * 9 := rfl
 refine hz_ ?_
 refine WC.draw 15 (.take 0 (.take 1 (.take 2 (.take 3 (.take 4 (.take 5 (.take 6 (.take 7 (.take 8 (.take 9 (.take 10 (.take 11 (.take 12 (.take 13 (.one 14 .done))))))))))))))) ((pr, _) :: F) mixed xsb_ (by decide +kernel) ?_
 refine dz_ ?_
 rw [e9]
 refine dz_ ?_
 refine hz_ ?_
 exact end_1 rfl rfl (Env.le.rfl' _) ⟨rfl, rfl, rfl⟩
theorem recordNil_ok {H : List Blk} {v : Value} : Spc Tryz.prog 70 #[v, .pointer none] Γ H (fun r Γ' H' => Γ = Γ' ∧ H = H' ∧ r = .tuple #[]) := by
 refine Spc.body2 Tryz.func70 rfl Tryz.ntmps70 rfl ?_
 refine hz_ ?_
 exact end_0r rfl (Env.le.rfl' _) ⟨rfl, rfl, rfl⟩
theorem nextK_ok {H F F1 F2 : List Blk} {pr pe off b16 b8 b17 b7 b21 j k : Nat} {o ou : Obj} {d : Df} (h : TX Γ pd pu l ds) (hu : UX Γ l ds ou) (hp : Pick H pr o F) (hq : Pick F pu ou F2) (hR : RN Γ pd pu l ds (rtI ds j + 1 + k) o)
  (hj : ds[j]? = some d) (hE : NE Γ pe off l.vers (hdN l ds d)) (h16 : Rd Γ F b16 0 (.pointer (some ⟨pe, 0, none⟩))) (h8 : Rd Γ F b8 0 (.iface 124 (.pointer (some ⟨pr, 0, none⟩)))) (h21 : Rd Γ F b21 0 (.int .i64 0))
  (hk : k ≤ (defK l (PLI l ds) d).length) (hkd : ∀ x ∈ defK l (PLI l ds) d, 0 < x.tag ∧ x.ch = false ∧ x.sib = false) :
  Spc Tryz.prog 63 #[.pointer (some ⟨b16, 0, none⟩), .pointer (some ⟨b8, 0, none⟩), .pointer (some ⟨b17, 0, none⟩), .pointer (some ⟨b7, 0, none⟩), .pointer (some ⟨b21, 0, none⟩)] Γ H
  (fun v Γ' H' => ∃ o', H' = (pr, o') :: F ∧ match (defK l (PLI l ds) d)[k]? with
   | some x => ∃ pk ofk, v = .pointer (some ⟨pk, 0, none⟩) ∧ NE Γ' pk ofk l.vers x ∧ RN Γ' pd pu l ds (rtI ds j + 1 + (k + 1)) o'
   | none => v = .pointer none) := by
 refine Spc.perm ?_ hp.perm
 have hch := hE.ch
 refine Spc.body5 Tryz.func63 rfl Tryz.ntmps63 rfl ?_
 cases he : (defK l (PLI l ds) d).isEmpty with
 | true =>
  have hnil := List.isEmpty_iff.1 he
  rw [show (hdN l ds d).ch = false by show (!_) = _; rw [he]; rfl] at hch
  refine hz_ ?_
  exact end_1 rfl rfl (Env.le.rfl' _) ⟨o, rfl, by rw [hnil]; rfl⟩
 | false =>
  rw [show (hdN l ds d).ch = true by show (!_) = _; rw [he]; rfl] at hch
  refine hz_ ?_
  refine WC.loop2 ?_
  refine hz_ ?_
  cases hx : (defK l (PLI l ds) d)[k]? with
  | some x =>
   obtain ⟨ht, hc, hs⟩ := hkd x (List.mem_of_getElem? hx)
   refine WL.invoke rfl (fun w => run_method_ptr Tryz.underlying124 (by kernel_rfl) _ _ w) Tryz.call156 rfl rfl (by exact (nextN_ok h hu Pick.here hq hR (kid_at hj hx) ht hs)) ?_
   rintro _ Γ1 _ hle ⟨pk, o', rfl, hE', hR', rfl⟩
   have t1 := hE'.tag
   have t2 := hE'.ch
   rw [hc] at t2
   have h21' := h21.mono hle
   refine hz_ ?_
   rw [show (x.tag == 0) = false from beq_eq_false_iff_ne.2 (by omega)]
   refine hz_ ?_
   exact end_1 rfl rfl hle ⟨o', rfl, pk, _, rfl, hE', hR'⟩
  | none =>
   have hkl : k = (defK l (PLI l ds) d).length := by
    have := List.getElem?_eq_none_iff.1 hx
    omega
   subst hkl
   refine WL.invoke rfl (fun w => run_method_ptr Tryz.underlying124 (by kernel_rfl) _ _ w) Tryz.call156 rfl rfl (by exact (nextZ_ok h hu Pick.here hq hR (nul_at hj he) rfl)) ?_
   rintro _ Γ1 _ hle ⟨pk, o', rfl, hE', hR', rfl⟩
   have t1 := hE'.tag
   have h21' := h21.mono hle
   refine hz_ ?_
   exact end_1 rfl rfl hle ⟨o', rfl, rfl⟩
end
section
variable {Γ : Env} {pd pu : Nat} {l : Lay} {ds : List Df}
abbrev RSH (pu : Nat) (ou : Obj) (pm : Nat) (es : List MapEntry) (c : Nat) (pf : Nat) (sl : Value) (td : TDs) (Hv F : List Blk) : List Blk :=
 (pu, ou) :: (pm, .map es.toArray c) :: (pf, cel [sl, nilS] 172) :: (tdB td ++ (Hv ++ F))
def RPost (pu : Nat) (l : Lay) (ds : List Df) (pm pf : Nat) (O : List Nat) (B : BM) (F : List Blk) (j : Nat) (v : Value) (Γ' : Env) (H' : List Blk) : Prop :=
 ∃ (ou : Obj) (es : List MapEntry) (c : Nat) (sl : Value) (td : TDs) (Hv : List Blk) (B' : BM) (b : Nat) (d : Df), v = .tuple #[pkey (tyP d.kind) b, .nilIface] ∧ ds[j]? = some d ∧ B' j 0 = some b ∧ BM.ext O B B' ∧ UX Γ' l ds ou ∧ TS Γ' l ds O B' es td ∧
  Ow 1 sl td.length (tdP td) Hv ∧ H' = RSH pu ou pm es c pf sl td Hv F
def RTc (pd pu : Nat) (l : Lay) (ds : List Df) (nm : Value) (pm pf : Nat) (n : Nat) : Prop :=
 ∀ {Γ : Env} {F : List Blk} {O : List Nat} {B : BM} {es : List MapEntry} {c : Nat} {td : TDs} {sl : Value} {Hv : List Blk} {pr j : Nat} {o ou : Obj} {d : Df},
  TX Γ pd pu l ds → UX Γ l ds ou → TS Γ l ds O B es td → OpL Γ F O B → Ow 1 sl td.length (tdP td) Hv → RF pd o → ds[j]? = some d → missL B ds.length ≤ n →
  Spc Tryz.prog 42 #[.pointer (some ⟨pd, 0, none⟩), nm, .iface 124 (.pointer (some ⟨pr, 0, none⟩)), .int .u32 ((nodO l ds (rtI ds j) : Nat) : Int), .map (some pm), .pointer (some ⟨pf, 0, none⟩)] Γ
   ((pr, o) :: RSH pu ou pm es c pf sl td Hv F) (RPost pu l ds pm pf O B F j)
theorem typeOf_ok {F F2 : List Blk} {O : List Nat} {B : BM} {es : List MapEntry} {c n : Nat} {td : TDs} {nm sl : Value} {Hv : List Blk} {pr pm pf i pe off b6 b7 b8 b10 b11 b17 : Nat} {o ou : Obj} {x : Nod} {m : Int}
  (ih : RTc pd pu l ds nm pm pf n) (h : TX Γ pd pu l ds) (hu : UX Γ l ds ou) (hS : TS Γ l ds O B es td) (hO : OpL Γ F O B) (how : Ow 1 sl td.length (tdP td) Hv) (hn : missL B ds.length ≤ n) (hE : NE Γ pe off l.vers x) (hv : eV l.vers x 73 = ofO l ds m)
  (h1 : -1 ≤ m) (h2 : m < ds.length) (hr : Pick F pr o F2) (hR : RN Γ pd pu l ds i o)
  (h6 : Rd Γ F b6 0 (.pointer (some ⟨pd, 0, none⟩))) (h7 : Rd Γ F b7 0 nm) (h8 : Rd Γ F b8 0 (.iface 124 (.pointer (some ⟨pr, 0, none⟩)))) (h10 : Rd Γ F b10 0 (.map (some pm))) (h11 : Rd Γ F b11 0 (.pointer (some ⟨pf, 0, none⟩))) :
  Spc Tryz.prog 64 #[.pointer (some ⟨pe, 0, none⟩), .pointer (some ⟨b6, 0, none⟩), .pointer (some ⟨b7, 0, none⟩), .pointer (some ⟨b8, 0, none⟩), .pointer (some ⟨b10, 0, none⟩), .pointer (some ⟨b11, 0, none⟩), .pointer (some ⟨b17, 0, none⟩)] Γ
   (RSH pu ou pm es c pf sl td Hv ((b17, cel [.nilIface] 77) :: F))
  (fun v Γ' H' => ∃ (ou : Obj) (es : List MapEntry) (c : Nat) (sl : Value) (td : TDs) (Hv : List Blk) (B' : BM), KV Γ' B' ds m v ∧ BM.ext O B B' ∧ UX Γ' l ds ou ∧ TS Γ' l ds O B' es td ∧
   Ow 1 sl td.length (tdP td) Hv ∧ H' = RSH pu ou pm es c pf sl td Hv ((b17, cel [.nilIface] 77) :: F)) := by
 refine Spc.body7 Tryz.func64 rfl Tryz.ntmps64 rfl ?_
 refine hz_ ?_
 refine WL.call rfl Tryz.call65 rfl rfl (by exact (hE.val 73)) ?_
 rw [hv]
 rintro v _ _ - ⟨rfl, rfl, hf⟩
 unfold ofO at hf
 by_cases h0 : m < 0
 ·rw [if_pos h0] at hf
  simp only at hf
  subst hf
  refine hz_ ?_
  (refine WL.alloc tab_ok rfl rfl ?_; intro bv)
  refine hz_ ?_
  refine WE.freeze (b := bv) pk_ (fun hle => ?_)
  refine end_1 rfl rfl hle ⟨ou, es, c, sl, td, Hv, B, KV.void (b := bv) (by simp [Env.add]; rfl) h0 (by omega), BM.ext.rfl' _ _, hu.mono hle, hS.mono hle, how, rfl⟩
 ·rw [if_neg h0] at hf
  obtain rfl : v = .iface 90 (.int .u32 ((nodO l ds (rtI ds m.toNat) : Nat) : Int)) := hf
  refine hz_ ?_
  have hlt : m.toNat < ds.length := by omega
  obtain ⟨d, hd⟩ : ∃ d, ds[m.toNat]? = some d := ⟨_, List.getElem?_eq_getElem hlt⟩
  refine WC.draw 12 (.take 0 (.take 1 (.take 2 (.take 4 (.take 5 (.take 6 (.one 3 (.one 7 (.take 8 (.take 9 (.take 10 (.one 11 (.one 12 .done))))))))))))) (F) mixed hsb_ (by decide +kernel) ?_
  refine jz_ ?_
  refine WL.invoke rfl (fun w => run_method_ptr Tryz.underlying124 (by kernel_rfl) _ _ w) Tryz.call158 rfl rfl (by exact (clone_ok h hu (Pick.there (Pick.there (Pick.there (Pick.over (Pick.over (Pick.there hr)))))) hR Pick.here)) ?_
  rintro _ Γ1 _ hle1 ⟨p2, o2, ou2, rfl, hF, hu2, rfl⟩
  refine jz_ ?_
  refine WL.call rfl Tryz.call42 rfl rfl (by exact (ih (h.mono hle1) hu2 (hS.mono hle1) ((hO.mono hle1 (BM.le.rfl' _)).cons) how hF hd hn)) ?_
  rintro _ Γ2 _ hle2 ⟨ou3, es3, c3, sl3, td3, Hv3, B3, b3, d3, rfl, hd3, hb3, hext, hu3, hS3, how3, rfl⟩
  rw [hd] at hd3; injection hd3 with hd3; subst hd3
  have hle := hle1.trans hle2
  refine jz_ ?_
  refine hz_ ?_
  have hkv : KV Γ2 B3 ds m (pkey (tyP d.kind) b3) := by
   have := KV.of (Γ := Γ2) hd hb3
   rwa [show ((m.toNat : Nat) : Int) = m by omega] at this
  refine WE.re (H2 := RSH pu ou3 pm es3 c3 pf sl3 td3 Hv3 ((b17, cel [.nilIface] 77) :: F)) sn_ ?_
  exact end_1 rfl rfl hle ⟨ou3, es3, c3, sl3, td3, Hv3, B3, hkv, hext, hu3, hS3, how3, rfl⟩
end
end Go.Proofs.YtbgkbgoonjkghaaGreatDoor
namespace Go.Sl
open Go
section
variable {P : Program} {Q : Post} {n : Nat} {D : List Deferred} {R : Regs} {Γ : Env} {H : List Blk}
theorem WC.sub {c : Code} {R' : Regs} {H' : List Blk} (hR : subR R R') (hH : ∀ w, St Γ H w → St Γ H' w) (k : WC P c Q n D R' Γ H') : WC P c Q n D R Γ H :=
 ⟨fun a w hs => k.go a w ⟨hs.defers, hs.size, fun i v e => hs.regs i v (subR_get hR i v e), hH w hs.st⟩⟩
theorem WL.re' {ops : Array Oper} {rest : List Oper} {H' : List Blk} (hH : ∀ w, St Γ H w → St Γ H' w) (k : WL P ops Q n D rest R Γ H') : WL P ops Q n D rest R Γ H :=
 ⟨fun a w hs => k.go a w ⟨hs.defers, hs.size, hs.regs, hH w hs.st⟩⟩
def NPo (Q : Post) : Post := fun e a w => match e with
 | .panic _ => False
 | e => Q e a w
theorem NP.npo : NP (NPo Q) := ⟨fun _ _ _ h => h⟩
theorem NP.goto_ (h : NP Q) : NP (Exit.noGoto Q) := ⟨fun c a w hq => h.go c a w hq⟩
theorem WC.np {c : Code} (h : WC P c (NPo Q) n D R Γ H) : WC P c Q n D R Γ H := ⟨fun a w hs => wp_mono (h.go a w hs) fun e a w hq => by
 cases e
 case panic => exact hq.elim
 all_goals exact hq⟩
theorem WE.np_n (k : WE Q .normal n D R Γ H) : WE (NPo Q) .normal n D R Γ H := ⟨fun a w hs => k.go a w hs⟩
theorem WE.np_r (k : WE Q .ret n D R Γ H) : WE (NPo Q) .ret n D R Γ H := ⟨fun a w hs => k.go a w hs⟩
theorem WE.np_x {id : Nat} (k : WE Q (.exit id) n D R Γ H) : WE (NPo Q) (.exit id) n D R Γ H := ⟨fun a w hs => k.go a w hs⟩
def csub : Code → List Bool → Code
 | c, [] => c
 | .seq a _, false :: p => csub a p
 | .seq _ b, true :: p => csub b p
 | .cond _ a _, false :: p => csub a p
 | .cond _ _ b, true :: p => csub b p
 | .block _ b, _ :: p => csub b p
 | .scope b, _ :: p => csub b p
 | .loop b, _ :: p => csub b p
 | c, _ :: _ => c
end
end Go.Sl
namespace Go.Proofs.YtbgkbgoonjkghaaGreatDoor
open Go Go.Sl
set_option maxRecDepth 10000
set_option maxHeartbeats 40000000
theorem loop_data (b : ByteArray) : ∀ (k i : Nat) (r : List UInt8), b.size - i = k → i ≤ b.size → ByteArray.toList.loop b i r = r.reverse ++ b.data.toList.drop i := by
 intro k
 induction k with
 | zero =>
  intro i r h hi
  unfold ByteArray.toList.loop
  rw [if_neg (by omega), List.drop_eq_nil_of_le (by rw [Array.length_toList]; show b.size ≤ i; omega), List.append_nil]
 | succ k ih =>
  intro i r h hi
  unfold ByteArray.toList.loop
  rw [if_pos (by omega), ih (i + 1) _ (by omega) (by omega)]
  have hlt : i < b.data.toList.length := by rw [Array.length_toList]; show i < b.size; omega
  rw [List.drop_eq_getElem_cons hlt, List.reverse_cons, List.append_assoc]
  congr 1
  obtain ⟨a⟩ := b
  simp only [List.reverse_cons, List.singleton_append, Array.getElem_toList, List.cons.injEq, and_true]
  exact getElem!_pos a i (by rw [Array.length_toList] at hlt; exact hlt)
theorem toList_data (b : ByteArray) : b.toList = b.data.toList := by
 unfold ByteArray.toList
 rw [loop_data b b.size 0 [] rfl (Nat.zero_le _)]; simp
theorem bts_ext {a b : ByteArray} (h : a.toList = b.toList) : a = b := by
 rw [toList_data, toList_data] at h
 obtain ⟨a⟩ := a
 obtain ⟨b⟩ := b
 simp only [Array.toList_inj] at h
 rw [h]
section
variable {Γ : Env} {pd pu : Nat} {l : Lay} {ds : List Df}
structure BX (Γ : Env) (pd pm pf pr : Nat) (nm : Value) (pe b6 b7 b8 b10 b11 b16 b21 : Nat) : Prop where
 c6 : Γ.cell b6 0 = some (.pointer (some ⟨pd, 0, none⟩))
 c7 : Γ.cell b7 0 = some nm
 c8 : Γ.cell b8 0 = some (.iface 124 (.pointer (some ⟨pr, 0, none⟩)))
 c10 : Γ.cell b10 0 = some (.map (some pm))
 c11 : Γ.cell b11 0 = some (.pointer (some ⟨pf, 0, none⟩))
 c16 : Γ.cell b16 0 = some (.pointer (some ⟨pe, 0, none⟩))
 c21 : Γ.cell b21 0 = some (.int .i64 0)
theorem BX.mono {Γ' : Env} (hle : Γ.le Γ') {pm pf pr pe b6 b7 b8 b10 b11 b16 b21 : Nat} {nm : Value} (h : BX Γ pd pm pf pr nm pe b6 b7 b8 b10 b11 b16 b21) : BX Γ' pd pm pf pr nm pe b6 b7 b8 b10 b11 b16 b21 :=
 ⟨hle.cell h.c6, hle.cell h.c7, hle.cell h.c8, hle.cell h.c10, hle.cell h.c11, hle.cell h.c16, hle.cell h.c21⟩
structure SWH (Γ : Env) (pd pu pm pf pr : Nat) (l : Lay) (ds : List Df) (n : Nat) (nm : Value) (pe b6 b7 b8 b10 b11 b16 b21 : Nat) (O : List Nat) (B : BM) (es : List MapEntry) (td : TDs) (sl : Value) (Hv F : List Blk) (ou o : Obj) (j : Nat) (d : Df) : Prop where
 ih : RTc pd pu l ds nm pm pf n
 tx : TX Γ pd pu l ds
 ux : UX Γ l ds ou
 ts : TS Γ l ds O B es td
 op : OpL Γ F O B
 ow : Ow 1 sl td.length (tdP td) Hv
 bx : BX Γ pd pm pf pr nm pe b6 b7 b8 b10 b11 b16 b21
 dj : ds[j]? = some d
 b0 : B j 0 = none
 ms : missL B ds.length ≤ n + 1
 ent : NE Γ pe (nodO l ds (rtI ds j)) l.vers (hdN l ds d)
 rd : RN Γ pd pu l ds (rtI ds j + 1) o
variable {pm pf pr n : Nat} {nm : Value} {pe b6 b7 b8 b10 b11 b16 b17 b21 c : Nat} {O : List Nat} {B : BM} {es : List MapEntry} {td : TDs} {sl : Value} {Hv F : List Blk} {ou o : Obj} {j : Nat} {d : Df}
theorem SWH.ok (h : SWH Γ pd pu pm pf pr l ds n nm pe b6 b7 b8 b10 b11 b16 b21 O B es td sl Hv F ou o j d) : OkDf ds.length j d := h.tx.ok.each j d h.dj
theorem SWH.jl (h : SWH Γ pd pu pm pf pr l ds n nm pe b6 b7 b8 b10 b11 b16 b21 O B es td sl Hv F ou o j d) : j < ds.length := (List.getElem?_eq_some_iff.1 h.dj).1
theorem SWH.key (h : SWH Γ pd pu pm pf pr l ds n nm pe b6 b7 b8 b10 b11 b16 b21 O B es td sl Hv F ou o j d) : keysOf .u32 es ∧ mfind ((nodO l ds (rtI ds j) : Nat) : Int) es 0 = none := by
 refine ⟨h.ts.map.1, ?_⟩
 have := h.ts.map.2 j d h.dj
 cases e : mfind ((nodO l ds (rtI ds j) : Nat) : Int) es 0 with
 | none => rfl
 | some p =>
  obtain ⟨q, v⟩ := p
  rw [e] at this
  obtain ⟨b', h1, -⟩ := this
  rw [h.b0] at h1; cases h1
theorem SWH.jO (h : SWH Γ pd pu pm pf pr l ds n nm pe b6 b7 b8 b10 b11 b16 b21 O B es td sl Hv F ou o j d) : j ∉ O := fun hm => by
 obtain ⟨b, h1, -⟩ := h.op j hm
 rw [h.b0] at h1; cases h1
theorem SWH.fresh (h : SWH Γ pd pu pm pf pr l ds n nm pe b6 b7 b8 b10 b11 b16 b21 O B es td sl Hv F ou o j d) {b : Nat} (hf : ∀ x, Lv Γ ((b17, cel [.nilIface] 77) :: (pr, o) :: RSH pu ou pm es c pf sl td Hv F) x → x ≠ b) : ∀ x y z, B x y = some z → z ≠ b := fun x y z e =>
 hf z (h.ts.live (F := F) (H := (b17, cel [.nilIface] 77) :: (pr, o) :: RSH pu ou pm es c pf sl td Hv F) h.op (fun b hb => by simp only [List.map_cons, List.map_append, List.mem_cons, List.mem_append]; simp [hb]) (fun b hb => by simp only [List.map_cons, List.map_append, List.mem_cons, List.mem_append]; simp [hb]) e)
structure SWO (Γ : Env) (l : Lay) (ds : List Df) (n : Nat) (O : List Nat) (B : BM) (es : List MapEntry) (td : TDs) (F : List Blk) (c j b : Nat) (tp : TypeId) : Prop where
 ts : TS Γ l ds (j :: O) (B.put j 0 b) (es ++ [MapEntry.mk (.int .u32 ((nodO l ds (rtI ds j) : Nat) : Int)) (pkey tp b) c]) td
 ext : BM.ext O B (B.put j 0 b)
 ms : missL (B.put j 0 b) ds.length ≤ n
 op : ∀ {oo : Obj} {G : List Blk}, OpL Γ ((b, oo) :: (G ++ F)) (j :: O) (B.put j 0 b)
theorem SWH.open_ (h : SWH Γ pd pu pm pf pr l ds n nm pe b6 b7 b8 b10 b11 b16 b21 O B es td sl Hv F ou o j d) {b : Nat} {tp : TypeId} (htp : tyP d.kind = tp) (hf : ∀ x, Lv Γ ((b17, cel [.nilIface] 77) :: (pr, o) :: RSH pu ou pm es c pf sl td Hv F) x → x ≠ b) : SWO Γ l ds n O B es td F c j b tp := by
 subst htp
 refine ⟨h.ts.open_ h.dj h.b0 (h.fresh hf), BM.ext_put h.b0 h.jO, ?_, fun {oo G} x hx => ?_⟩
 ·have := missL_put (b := b) h.b0 h.jl
  have := h.ms
  omega
 ·rcases List.mem_cons.1 hx with rfl | hx
  ·exact ⟨b, BM.put_same, Lv.here⟩
  ·obtain ⟨b', h1, h2⟩ := h.op x hx
   exact ⟨b', BM.put_le h.b0 _ _ _ h1, (h2.app (G := G)).cons⟩
def KidN (Γ : Env) (pd pu : Nat) (l : Lay) (ds : List Df) (j k : Nat) (v : Value) (o : Obj) : Option Nod → Prop
 | some x => ∃ pk ofk, v = .pointer (some ⟨pk, 0, none⟩) ∧ NE Γ pk ofk l.vers x ∧ RN Γ pd pu l ds (rtI ds j + 1 + (k + 1)) o
 | none => v = .pointer none
theorem KidN.mono {Γ' : Env} (hle : Γ.le Γ') {k : Nat} {v : Value} {x : Option Nod} (h : KidN Γ pd pu l ds j k v o x) : KidN Γ' pd pu l ds j k v o x := by
 cases x with
 | none => exact h
 | some x =>
  obtain ⟨pk, ofk, h1, h2, h3⟩ := h
  exact ⟨pk, ofk, h1, h2.mono hle, h3.mono hle⟩
theorem SWH.next (h : SWH Γ pd pu pm pf pr l ds n nm pe b6 b7 b8 b10 b11 b16 b21 O B es td sl Hv F ou o j d) {α : Type} {xs : List α} {f : α → Nod} (hK : defK l (PLI l ds) d = xs.map f) (hf : ∀ x ∈ xs, 0 < (f x).tag ∧ (f x).ch = false ∧ (f x).sib = false)
  {Γ1 : Env} {H1 F1 F2 : List Blk} {o1 ou1 : Obj} {k : Nat} (hle : Γ.le Γ1) (hu : UX Γ1 l ds ou1) (hp : Pick H1 pr o1 F1) (hq : Pick F1 pu ou1 F2) (hR : RN Γ1 pd pu l ds (rtI ds j + 1 + k) o1) (hk : k ≤ xs.length) :
  Spc Tryz.prog 63 #[.pointer (some ⟨b16, 0, none⟩), .pointer (some ⟨b8, 0, none⟩), .pointer (some ⟨b17, 0, none⟩), .pointer (some ⟨b7, 0, none⟩), .pointer (some ⟨b21, 0, none⟩)] Γ1 H1
  (fun v Γ' H' => ∃ o', H' = (pr, o') :: F1 ∧ KidN Γ' pd pu l ds j k v o' ((xs[k]?).map f)) := by
 have hbx := h.bx.mono hle
 refine (nextK_ok (F1 := F1) (h.tx.mono hle) hu hp hq hR h.dj (h.ent.mono hle) (.inl hbx.c16) (.inl hbx.c8) (.inl hbx.c21) (by rw [hK, List.length_map]; exact hk) (fun x hx => ?_)).mono ?_
 ·rw [hK] at hx
  obtain ⟨y, hy, rfl⟩ := List.mem_map.1 hx
  exact hf y hy
 ·rintro v Γ' H' - ⟨o', rfl, hm⟩
  refine ⟨o', rfl, ?_⟩
  rw [hK, List.getElem?_map] at hm
  cases hx : xs[k]? with
  | none => rw [hx] at hm; exact hm
  | some x => rw [hx] at hm; exact hm
theorem SWH.none (h : SWH Γ pd pu pm pf pr l ds n nm pe b6 b7 b8 b10 b11 b16 b21 O B es td sl Hv F ou o j d) (k : Nat) : B j k = none := by
 cases e : B j k with
 | none => rfl
 | some b =>
  obtain ⟨b0, h0⟩ := h.ts.top j k b e
  rw [h.b0] at h0; cases h0
def FinC (Γ : Env) (B : BM) (ds : List Df) (j : Nat) (d : Df) (cs : List Value) : Prop :=
 if d.kind = 9 then ∃ v, cs = [noStr, v] ∧ KV Γ B ds d.of v
 else if d.kind = 10 then ∃ vs, cs = [noStr, .string d.name, .string (kindS d.which), vs, .bool d.inc] ∧ Arr Γ (MemO Γ B ds) vs d.mems
 else if d.kind = 11 then ∃ n v, cs = [noStr, v, .int .i64 0, .int .i64 n] ∧ d.cnts[0]? = some n ∧ DirC Γ B ds j d 1 v
 else if d.kind = 12 then ∃ v, cs = [.string d.name, v] ∧ KV Γ B ds d.of v
 else if d.kind = 13 then ∃ v, cs = [noStr, .string (qualS d.which), v] ∧ KV Γ B ds d.of v
 else if d.kind = 14 then ∃ vs, cs = [noStr, .string d.name, vs] ∧ Arr Γ (ConO Γ) vs d.cons
 else if d.kind = 15 then ∃ v vs, cs = [noStr, v, vs] ∧ KV Γ B ds d.of v ∧ Arr Γ (ParO Γ B ds) vs d.pars
 else cs = [.string d.name, .int .i64 0, .int .i64 0, .int .i64 0]
def bySize (l : Lay) (d : Df) : Int := if d.kind = 9 then l.size else if d.kind = 10 then (if d.inc then -1 else d.size) else if d.kind = 14 ∨ d.kind ≤ 8 then d.size else -1
theorem FinC.obj {Γ' : Env} {cs : List Value} {b : Nat} (h : FinC Γ' B ds j d cs) (hb : Γ'.imm b = some (cel (.int .i64 (bySize l d) :: cs) (tyO d.kind))) (h1 : 1 ≤ d.kind) (h16 : d.kind ≤ 16) : ObjC Γ' B l ds j d b := by
 unfold FinC at h
 unfold ObjC
 by_cases h9 : d.kind = 9
 ·rw [if_pos h9] at h ⊢
  obtain ⟨v, rfl, h2⟩ := h
  refine ⟨v, ?_, h2⟩
  rw [hb, h9]; unfold bySize; rw [if_pos h9]; rfl
 rw [if_neg h9] at h ⊢
 by_cases h10 : d.kind = 10
 ·rw [if_pos h10] at h ⊢
  obtain ⟨vs, rfl, h2⟩ := h
  refine ⟨vs, ?_, h2⟩
  rw [hb, h10]; unfold bySize; rw [if_neg h9, if_pos h10]; rfl
 rw [if_neg h10] at h ⊢
 by_cases h11 : d.kind = 11
 ·rw [if_pos h11] at h ⊢
  obtain ⟨n, v, rfl, h2, h3⟩ := h
  refine ⟨bySize l d, n, v, h2, ?_, h3⟩
  rw [hb, h11]; rfl
 rw [if_neg h11] at h ⊢
 by_cases h12 : d.kind = 12
 ·rw [if_pos h12] at h ⊢
  obtain ⟨v, rfl, h2⟩ := h
  refine ⟨bySize l d, v, ?_, h2⟩
  rw [hb, h12]; rfl
 rw [if_neg h12] at h ⊢
 by_cases h13 : d.kind = 13
 ·rw [if_pos h13] at h ⊢
  obtain ⟨v, rfl, h2⟩ := h
  refine ⟨bySize l d, v, ?_, h2⟩
  rw [hb, h13]; rfl
 rw [if_neg h13] at h ⊢
 by_cases h14 : d.kind = 14
 ·rw [if_pos h14] at h ⊢
  obtain ⟨vs, rfl, h2⟩ := h
  refine ⟨vs, ?_, h2⟩
  rw [hb, h14]; unfold bySize; rw [if_neg h9, if_neg h10, if_pos (.inl h14)]; rfl
 rw [if_neg h14] at h ⊢
 by_cases h15 : d.kind = 15
 ·rw [if_pos h15] at h ⊢
  obtain ⟨v, vs, rfl, h2, h3⟩ := h
  refine ⟨v, vs, ?_, h2, h3⟩
  rw [hb, h15]; unfold bySize; rw [if_neg h9, if_neg h10, if_neg (by omega)]; rfl
 rw [if_neg h15] at h ⊢
 subst h
 by_cases h16' : d.kind = 16
 ·rw [if_pos h16', hb, h16']; unfold bySize; rw [if_neg h9, if_neg h10, if_neg (by omega)]; rfl
 ·rw [if_neg h16', hb]; unfold bySize; rw [if_neg h9, if_neg h10, if_pos (by omega)]
theorem FinC.mono {Γ' : Env} {B' : BM} (hle : Γ.le Γ') (hB : B.le B') {cs : List Value} (h : FinC Γ B ds j d cs) : FinC Γ' B' ds j d cs := by
 unfold FinC at h ⊢
 by_cases h9 : d.kind = 9
 ·rw [if_pos h9] at h ⊢
  obtain ⟨v, h1, h2⟩ := h; exact ⟨v, h1, h2.mono hle hB⟩
 rw [if_neg h9] at h ⊢
 by_cases h10 : d.kind = 10
 ·rw [if_pos h10] at h ⊢
  obtain ⟨vs, h1, h3⟩ := h; exact ⟨vs, h1, h3.mono hle fun _ _ h => h.mono hle hB⟩
 rw [if_neg h10] at h ⊢
 by_cases h11 : d.kind = 11
 ·rw [if_pos h11] at h ⊢
  obtain ⟨n, v, h1, h2, h3⟩ := h; exact ⟨n, v, h1, h2, h3.mono hle hB⟩
 rw [if_neg h11] at h ⊢
 by_cases h12 : d.kind = 12
 ·rw [if_pos h12] at h ⊢
  obtain ⟨v, h1, h2⟩ := h; exact ⟨v, h1, h2.mono hle hB⟩
 rw [if_neg h12] at h ⊢
 by_cases h13 : d.kind = 13
 ·rw [if_pos h13] at h ⊢
  obtain ⟨v, h1, h2⟩ := h; exact ⟨v, h1, h2.mono hle hB⟩
 rw [if_neg h13] at h ⊢
 by_cases h14 : d.kind = 14
 ·rw [if_pos h14] at h ⊢
  obtain ⟨vs, h1, h2⟩ := h; exact ⟨vs, h1, h2.mono hle fun _ _ h => h.mono hle⟩
 rw [if_neg h14] at h ⊢
 by_cases h15 : d.kind = 15
 ·rw [if_pos h15] at h ⊢
  obtain ⟨v, vs, h1, h2, h3⟩ := h; exact ⟨v, vs, h1, h2.mono hle hB, h3.mono hle fun _ _ h => h.mono hle hB⟩
 rw [if_neg h15] at h ⊢
 exact h
def SwM (pu pm pf pr b11 b16 b17 : Nat) (l : Lay) (ds : List Df) (O : List Nat) (B : BM) (F : List Blk) (Γ : Env) (j : Nat) (d : Df) (tp to_ : TypeId) (R' : Regs) (Γ' : Env) (H' : List Blk) : Prop :=
 ∃ (o' ou' : Obj) (es' : List MapEntry) (c' : Nat) (sl' : Value) (td' : TDs) (Hv' : List Blk) (B' : BM) (b : Nat) (cs : List Value),
  R' = [(3, .int .u32 ((nodO l ds (rtI ds j) : Nat) : Int)), (11, .pointer (some ⟨b11, 0, none⟩)), (16, .pointer (some ⟨b16, 0, none⟩)), (17, .pointer (some ⟨b17, 0, none⟩)), (18, .int .i64 l.size), (20, pkey tp b)] ∧ Γ.le Γ' ∧
  H' = (b, cel (.int .i64 0 :: cs) to_) :: (b17, cel [.nilIface] 77) :: (pr, o') :: RSH pu ou' pm es' c' pf sl' td' Hv' F ∧ UX Γ' l ds ou' ∧ TS Γ' l ds (j :: O) B' es' td' ∧ Ow 1 sl' td'.length (tdP td') Hv' ∧ BM.ext O B B' ∧ B' j 0 = some b ∧ FinC Γ' B' ds j d cs
abbrev SwR (l : Lay) (ds : List Df) (j : Nat) (d : Df) (pe b6 b7 b8 b10 b11 b16 b17 b21 : Nat) : Regs :=
 [(3, .int .u32 ((nodO l ds (rtI ds j) : Nat) : Int)), (6, .pointer (some ⟨b6, 0, none⟩)), (7, .pointer (some ⟨b7, 0, none⟩)), (8, .pointer (some ⟨b8, 0, none⟩)), (10, .pointer (some ⟨b10, 0, none⟩)), (11, .pointer (some ⟨b11, 0, none⟩)), (16, .pointer (some ⟨b16, 0, none⟩)), (17, .pointer (some ⟨b17, 0, none⟩)), (18, .int .i64 l.size), (20, .nilIface),
  (22, .func (.func 63) #[] #[.pointer (some ⟨b16, 0, none⟩), .pointer (some ⟨b8, 0, none⟩), .pointer (some ⟨b17, 0, none⟩), .pointer (some ⟨b7, 0, none⟩), .pointer (some ⟨b21, 0, none⟩)]),
  (23, .func (.func 64) #[] #[.pointer (some ⟨b6, 0, none⟩), .pointer (some ⟨b7, 0, none⟩), .pointer (some ⟨b8, 0, none⟩), .pointer (some ⟨b10, 0, none⟩), .pointer (some ⟨b11, 0, none⟩), .pointer (some ⟨b17, 0, none⟩)]),
  (112, .int .u32 (hdN l ds d).tag)]
abbrev SwG (l : Lay) (ds : List Df) (d : Df) (pu pm pf pr pe b6 b7 b8 b10 b11 b16 b17 b21 c : Nat) (O : List Nat) (B : BM) (es : List MapEntry) (td : TDs) (sl : Value) (Hv F : List Blk) (ou o : Obj) (Γ : Env) (j : Nat) : Prop :=
 ∀ {Q : Post} {D : List Deferred}, NP Q → WC Tryz.prog (csub (Tryz.f42.body.getD .skip) [true, true, true, true, true, true, true, true, true, true, true, true, true, false, true]) (Exit.then (Mid (SwM pu pm pf pr b11 b16 b17 l ds O B F Γ j d (tyP d.kind) (tyO d.kind)) 880 D) Q) 880 D (SwR l ds j d pe b6 b7 b8 b10 b11 b16 b17 b21) Γ ((b17, cel [.nilIface] 77) :: (pr, o) :: RSH pu ou pm es c pf sl td Hv F)
end
section
variable {Γ : Env} {pd pu : Nat} {l : Lay} {ds : List Df} {pm pf pr n : Nat} {nm : Value} {pe b6 b7 b8 b10 b11 b16 b17 b21 c : Nat} {O : List Nat} {B : BM} {es : List MapEntry} {td : TDs} {sl : Value} {Hv F : List Blk} {ou o : Obj} {j : Nat} {d : Df}
theorem sw9 (h : SWH Γ pd pu pm pf pr l ds n nm pe b6 b7 b8 b10 b11 b16 b21 O B es td sl Hv F ou o j d) (hk : d.kind = 9) : SwG l ds d pu pm pf pr pe b6 b7 b8 b10 b11 b16 b17 b21 c O B es td sl Hv F ou o Γ j := by
 intro Q D hNP
 have hok := h.ok
 have htp : tyP d.kind = 240 := by rw [hk]; rfl
 have hto : tyO d.kind = 242 := by rw [hk]; rfl
 obtain ⟨htag, hv73, hv11⟩ := hd9 (v := l.vers) h.tx.ok hok.d0.of1 hk
 have hbx := h.bx
 unfold SwR
 rw [htag, htp, hto]
 have g10 := h.bx.c10
 have g16 := h.bx.c16
 obtain ⟨hkeys, hmiss⟩ := h.key
 refine hz_ ?_
 (refine WL.alloc tab_ok rfl rfl ?_; intro b)
 refine WL.fresh (b := b) pk_ (fun hfr => ?_)
 have hop := h.open_ htp hfr
 refine hz_ ?_
 refine WL.mapNew tab_ok rfl rfl rfl rfl rfl pk_ hkeys hmiss ?_
 refine hz_ ?_
 refine WL.call rfl Tryz.call65 rfl rfl (by exact (h.ent.val 73)) ?_
 rw [hv73]
 rintro v _ _ - ⟨rfl, rfl, hv⟩
 unfold ofO at hv
 by_cases h0 : d.of < 0
 ·rw [if_pos h0] at hv
  simp only at hv
  subst hv
  refine hz_ ?_
  (refine WL.box rfl spi_ rfl ?_; intro bv)
  refine hz_ ?_
  refine WE.freeze (b := bv) pk_ (fun hle => ?_)
  have hkv : KV (Γ.add bv (cel [.int .i64 0, .string ⟨#[]⟩] 182)) (B.put j 0 b) ds d.of (pkey 134 bv) := KV.void (b := bv) (by simp [Env.add]; rfl) h0 (by have := hok.d0.of0; omega)
  exact WE.mid ⟨o, ou, _, c + 1, sl, td, Hv, _, b, [noStr, pkey 134 bv], rfl, hle, rfl, h.ux.mono hle, hop.ts.mono hle, h.ow, hop.ext, BM.put_same, by unfold FinC; rw [if_pos hk]; exact ⟨_, rfl, hkv⟩⟩ sr_ sn_
 ·rw [if_neg h0] at hv
  obtain rfl : v = .iface 90 (.int .u32 ((nodO l ds (rtI ds d.of.toNat) : Nat) : Int)) := hv
  refine hz_ ?_
  refine WL.re' (H' := RSH pu ou pm (es ++ [MapEntry.mk (.int .u32 ((nodO l ds (rtI ds j) : Nat) : Int)) (pkey 240 b) c]) (c + 1) pf sl td Hv ((b17, cel [.nilIface] 77) :: (b, cel [.int .i64 0, noStr, .nilIface] 242) :: (pr, o) :: F)) sn_ ?_
  refine WL.call rfl Tryz.call64 rfl rfl (by exact (typeOf_ok h.ih h.tx h.ux hop.ts (hop.op (G := [(pr, o)])) h.ow hop.ms h.ent hv73 hok.d0.of0 hok.d0.of1 (Pick.there Pick.here) h.rd (.inl hbx.c6) (.inl hbx.c7) (.inl hbx.c8) (.inl hbx.c10) (.inl hbx.c11))) ?_
  rintro _ Γ1 _ hle ⟨ou1, es1, c1, sl1, td1, Hv1, B1, hkv, hext, hu1, hS1, how1, rfl⟩
  obtain ⟨tv, bv, rfl⟩ := hkv.ex
  refine hz_ ?_
  exact WE.mid ⟨o, ou1, es1, c1, sl1, td1, Hv1, B1, b, [noStr, pkey tv bv], rfl, hle, rfl, hu1, hS1, how1, hop.ext.trans (hext.sub fun x hx => List.mem_cons_of_mem _ hx), hext.1 _ _ _ BM.put_same, by unfold FinC; rw [if_pos hk]; exact ⟨_, rfl, hkv⟩⟩ sr_ sn_
theorem sw12 (h : SWH Γ pd pu pm pf pr l ds n nm pe b6 b7 b8 b10 b11 b16 b21 O B es td sl Hv F ou o j d) (hk : d.kind = 12) : SwG l ds d pu pm pf pr pe b6 b7 b8 b10 b11 b16 b17 b21 c O B es td sl Hv F ou o Γ j := by
 intro Q D hNP
 have hok := h.ok
 have htp : tyP d.kind = 248 := by rw [hk]; rfl
 have hto : tyO d.kind = 249 := by rw [hk]; rfl
 obtain ⟨htag, hv73, hv11, hv3⟩ := hd12 (v := l.vers) h.tx.ok hok.d0.of1 hk
 have hbx := h.bx
 unfold SwR
 rw [htag, htp, hto]
 have g10 := h.bx.c10
 have g16 := h.bx.c16
 obtain ⟨hkeys, hmiss⟩ := h.key
 refine hz_ ?_
 (refine WL.alloc tab_ok rfl rfl ?_; intro b)
 refine WL.fresh (b := b) pk_ (fun hfr => ?_)
 have hop := h.open_ htp hfr
 refine hz_ ?_
 refine WL.mapNew tab_ok rfl rfl rfl rfl rfl pk_ hkeys hmiss ?_
 refine hz_ ?_
 refine WL.call rfl Tryz.call65 rfl rfl (by exact (h.ent.val 3)) ?_
 rw [hv3]
 rintro v _ _ - ⟨rfl, rfl, hv⟩
 obtain rfl : v = .iface 9 (.string d.name) := hv
 refine hz_ ?_
 refine WL.re' (H' := RSH pu ou pm (es ++ [MapEntry.mk (.int .u32 ((nodO l ds (rtI ds j) : Nat) : Int)) (pkey 248 b) c]) (c + 1) pf sl td Hv ((b17, cel [.nilIface] 77) :: (b, cel [.int .i64 0, .string d.name, .nilIface] 249) :: (pr, o) :: F)) sn_ ?_
 refine WL.call rfl Tryz.call64 rfl rfl (by exact (typeOf_ok h.ih h.tx h.ux hop.ts (hop.op (G := [(pr, o)])) h.ow hop.ms h.ent hv73 hok.d0.of0 hok.d0.of1 (Pick.there Pick.here) h.rd (.inl hbx.c6) (.inl hbx.c7) (.inl hbx.c8) (.inl hbx.c10) (.inl hbx.c11))) ?_
 rintro _ Γ1 _ hle ⟨ou1, es1, c1, sl1, td1, Hv1, B1, hkv, hext, hu1, hS1, how1, rfl⟩
 obtain ⟨tv, bv, rfl⟩ := hkv.ex
 refine hz_ ?_
 exact WE.mid ⟨o, ou1, es1, c1, sl1, td1, Hv1, B1, b, [.string d.name, pkey tv bv], rfl, hle, rfl, hu1, hS1, how1, hop.ext.trans (hext.sub fun x hx => List.mem_cons_of_mem _ hx), hext.1 _ _ _ BM.put_same, by unfold FinC; rw [if_neg (by omega), if_neg (by omega), if_neg (by omega), if_pos hk]; exact ⟨_, rfl, hkv⟩⟩ sr_ sn_
theorem sw13 (h : SWH Γ pd pu pm pf pr l ds n nm pe b6 b7 b8 b10 b11 b16 b21 O B es td sl Hv F ou o j d) (hk : d.kind = 13) : SwG l ds d pu pm pf pr pe b6 b7 b8 b10 b11 b16 b17 b21 c O B es td sl Hv F ou o Γ j := by
 intro Q D hNP
 have hok := h.ok
 have htp : tyP d.kind = 230 := by rw [hk]; rfl
 have hto : tyO d.kind = 232 := by rw [hk]; rfl
 obtain ⟨htag, hv73, hv11⟩ := hd13 (v := l.vers) h.tx.ok hok.d0.of1 hk
 have hbx := h.bx
 have hfin : ∀ (Γ1 : Env) (B1 : BM) (q : ByteArray) (v : Value), qualS d.which = q → KV Γ1 B1 ds d.of v → FinC Γ1 B1 ds j d [noStr, .string q, v] := fun Γ1 B1 q v hq hkv => by
  unfold FinC; rw [if_neg (by omega), if_neg (by omega), if_neg (by omega), if_neg (by omega), if_pos hk, hq]; exact ⟨_, rfl, hkv⟩
 have hw0 := hok.d2.w0
 have hw2 := hok.d2.w2
 have hE := h.ent
 have ht1 := hE.tag
 rw [htag] at ht1
 unfold SwR
 rw [htag, htp, hto]
 have g10 := h.bx.c10
 have g16 := h.bx.c16
 obtain ⟨hkeys, hmiss⟩ := h.key
 have hw : d.which = 0 ∨ d.which = 1 ∨ d.which = 2 := by omega
 rcases hw with hw | hw | hw
 ·have hq : qualS d.which = sConst := by rw [hw]; rfl
  rw [show tagQ d.which = 38 by rw [hw]; rfl] at *
  refine hz_ ?_
  (refine WL.alloc tab_ok rfl rfl ?_; intro b)
  refine WL.fresh (b := b) pk_ (fun hfr => ?_)
  have hop := h.open_ htp hfr
  refine hz_ ?_
  refine WL.mapNew tab_ok rfl rfl rfl rfl rfl pk_ hkeys hmiss ?_
  refine hz_ ?_
  refine WL.re' (H' := RSH pu ou pm (es ++ [MapEntry.mk (.int .u32 ((nodO l ds (rtI ds j) : Nat) : Int)) (pkey 230 b) c]) (c + 1) pf sl td Hv ((b17, cel [.nilIface] 77) :: (b, cel [.int .i64 0, noStr, noStr, .nilIface] 232) :: (pr, o) :: F)) sn_ ?_
  refine WL.call rfl Tryz.call64 rfl rfl (by exact (typeOf_ok h.ih h.tx h.ux hop.ts (hop.op (G := [(pr, o)])) h.ow hop.ms h.ent hv73 hok.d0.of0 hok.d0.of1 (Pick.there Pick.here) h.rd (.inl hbx.c6) (.inl hbx.c7) (.inl hbx.c8) (.inl hbx.c10) (.inl hbx.c11))) ?_
  rintro _ Γ1 _ hle ⟨ou1, es1, c1, sl1, td1, Hv1, B1, hkv, hext, hu1, hS1, how1, rfl⟩
  obtain ⟨tv, bv, rfl⟩ := hkv.ex
  have ht2 := (hE.mono hle).tag
  rw [htag] at ht2
  have g16' := hle.cell g16
  refine hz_ ?_
  exact WE.mid ⟨o, ou1, es1, c1, sl1, td1, Hv1, B1, b, [noStr, .string sConst, pkey tv bv], rfl, hle, rfl, hu1, hS1, how1, hop.ext.trans (hext.sub fun x hx => List.mem_cons_of_mem _ hx), hext.1 _ _ _ BM.put_same, hfin _ _ _ _ hq hkv⟩ sr_ sn_
 ·have hq : qualS d.which = sVolatile := by rw [hw]; rfl
  rw [show tagQ d.which = 53 by rw [hw]; rfl] at *
  refine hz_ ?_
  (refine WL.alloc tab_ok rfl rfl ?_; intro b)
  refine WL.fresh (b := b) pk_ (fun hfr => ?_)
  have hop := h.open_ htp hfr
  refine hz_ ?_
  refine WL.mapNew tab_ok rfl rfl rfl rfl rfl pk_ hkeys hmiss ?_
  refine hz_ ?_
  refine WL.re' (H' := RSH pu ou pm (es ++ [MapEntry.mk (.int .u32 ((nodO l ds (rtI ds j) : Nat) : Int)) (pkey 230 b) c]) (c + 1) pf sl td Hv ((b17, cel [.nilIface] 77) :: (b, cel [.int .i64 0, noStr, noStr, .nilIface] 232) :: (pr, o) :: F)) sn_ ?_
  refine WL.call rfl Tryz.call64 rfl rfl (by exact (typeOf_ok h.ih h.tx h.ux hop.ts (hop.op (G := [(pr, o)])) h.ow hop.ms h.ent hv73 hok.d0.of0 hok.d0.of1 (Pick.there Pick.here) h.rd (.inl hbx.c6) (.inl hbx.c7) (.inl hbx.c8) (.inl hbx.c10) (.inl hbx.c11))) ?_
  rintro _ Γ1 _ hle ⟨ou1, es1, c1, sl1, td1, Hv1, B1, hkv, hext, hu1, hS1, how1, rfl⟩
  obtain ⟨tv, bv, rfl⟩ := hkv.ex
  have ht2 := (hE.mono hle).tag
  rw [htag] at ht2
  have g16' := hle.cell g16
  refine hz_ ?_
  exact WE.mid ⟨o, ou1, es1, c1, sl1, td1, Hv1, B1, b, [noStr, .string sVolatile, pkey tv bv], rfl, hle, rfl, hu1, hS1, how1, hop.ext.trans (hext.sub fun x hx => List.mem_cons_of_mem _ hx), hext.1 _ _ _ BM.put_same, hfin _ _ _ _ hq hkv⟩ sr_ sn_
 ·have hq : qualS d.which = sRestrict := by rw [hw]; rfl
  rw [show tagQ d.which = 55 by rw [hw]; rfl] at *
  refine hz_ ?_
  (refine WL.alloc tab_ok rfl rfl ?_; intro b)
  refine WL.fresh (b := b) pk_ (fun hfr => ?_)
  have hop := h.open_ htp hfr
  refine hz_ ?_
  refine WL.mapNew tab_ok rfl rfl rfl rfl rfl pk_ hkeys hmiss ?_
  refine hz_ ?_
  refine WL.re' (H' := RSH pu ou pm (es ++ [MapEntry.mk (.int .u32 ((nodO l ds (rtI ds j) : Nat) : Int)) (pkey 230 b) c]) (c + 1) pf sl td Hv ((b17, cel [.nilIface] 77) :: (b, cel [.int .i64 0, noStr, noStr, .nilIface] 232) :: (pr, o) :: F)) sn_ ?_
  refine WL.call rfl Tryz.call64 rfl rfl (by exact (typeOf_ok h.ih h.tx h.ux hop.ts (hop.op (G := [(pr, o)])) h.ow hop.ms h.ent hv73 hok.d0.of0 hok.d0.of1 (Pick.there Pick.here) h.rd (.inl hbx.c6) (.inl hbx.c7) (.inl hbx.c8) (.inl hbx.c10) (.inl hbx.c11))) ?_
  rintro _ Γ1 _ hle ⟨ou1, es1, c1, sl1, td1, Hv1, B1, hkv, hext, hu1, hS1, how1, rfl⟩
  obtain ⟨tv, bv, rfl⟩ := hkv.ex
  have ht2 := (hE.mono hle).tag
  rw [htag] at ht2
  have g16' := hle.cell g16
  refine hz_ ?_
  exact WE.mid ⟨o, ou1, es1, c1, sl1, td1, Hv1, B1, b, [noStr, .string sRestrict, pkey tv bv], rfl, hle, rfl, hu1, hS1, how1, hop.ext.trans (hext.sub fun x hx => List.mem_cons_of_mem _ hx), hext.1 _ _ _ BM.put_same, hfin _ _ _ _ hq hkv⟩ sr_ sn_
theorem sw16 (h : SWH Γ pd pu pm pf pr l ds n nm pe b6 b7 b8 b10 b11 b16 b21 O B es td sl Hv F ou o j d) (hk : d.kind = 16) : SwG l ds d pu pm pf pr pe b6 b7 b8 b10 b11 b16 b17 b21 c O B es td sl Hv F ou o Γ j := by
 intro Q D hNP
 have hok := h.ok
 have htp : tyP d.kind = 250 := by rw [hk]; rfl
 have hto : tyO d.kind = 251 := by rw [hk]; rfl
 obtain ⟨htag, hv3, hv11⟩ := hd16 (v := l.vers) (l := l) (ds := ds) hk
 have hbx := h.bx
 unfold SwR
 rw [htag, htp, hto]
 have g10 := h.bx.c10
 have g16 := h.bx.c16
 obtain ⟨hkeys, hmiss⟩ := h.key
 refine hz_ ?_
 (refine WL.alloc tab_ok rfl rfl ?_; intro b)
 refine WL.fresh (b := b) pk_ (fun hfr => ?_)
 have hop := h.open_ htp hfr
 refine hz_ ?_
 refine WL.mapNew tab_ok rfl rfl rfl rfl rfl pk_ hkeys hmiss ?_
 refine hz_ ?_
 refine WL.call rfl Tryz.call65 rfl rfl (by exact (h.ent.val 3)) ?_
 rw [hv3]
 rintro v _ _ - ⟨rfl, rfl, hv⟩
 obtain rfl : v = .iface 9 (.string d.name) := hv
 refine hz_ ?_
 exact WE.mid ⟨o, ou, _, c + 1, sl, td, Hv, _, b, [.string d.name, .int .i64 0, .int .i64 0, .int .i64 0], rfl, Env.le.rfl' _, rfl, h.ux, hop.ts, h.ow, hop.ext, BM.put_same, by unfold FinC; rw [if_neg (by omega), if_neg (by omega), if_neg (by omega), if_neg (by omega), if_neg (by omega), if_neg (by omega), if_neg (by omega)]⟩ sr_ sn_
end
section
variable {Γ : Env} {pd pu : Nat} {l : Lay} {ds : List Df} {pm pf pr n : Nat} {nm : Value} {pe b6 b7 b8 b10 b11 b16 b17 b21 c : Nat} {O : List Nat} {B : BM} {es : List MapEntry} {td : TDs} {sl : Value} {Hv F : List Blk} {ou o : Obj} {j : Nat} {d : Df}
theorem sw1 (h : SWH Γ pd pu pm pf pr l ds n nm pe b6 b7 b8 b10 b11 b16 b21 O B es td sl Hv F ou o j d) (hk : d.kind = 1) : SwG l ds d pu pm pf pr pe b6 b7 b8 b10 b11 b16 b17 b21 c O B es td sl Hv F ou o Γ j := by
 intro Q D hNP
 have hok := h.ok
 have htp : tyP d.kind = 190 := by rw [hk]; rfl
 have hto : tyO d.kind = 194 := by rw [hk]; rfl
 obtain ⟨htag, hv3, hv62, hv11, hvn⟩ := hdBa (v := l.vers) (l := l) (ds := ds) hok.d0.s0 hok.d0.s1 (by omega : 1 ≤ d.kind) (by omega)
 have hv12 := hvn 12 (by omega)
 have hv107 := hvn 107 (by omega)
 have hv13 := hvn 13 (by omega)
 rw [hk] at hv62
 have hbx := h.bx
 unfold SwR
 rw [htag, htp, hto]
 have g10 := h.bx.c10
 have g16 := h.bx.c16
 obtain ⟨hkeys, hmiss⟩ := h.key
 refine hz_ ?_
 refine WL.call rfl Tryz.call65 rfl rfl (by exact (h.ent.val 3)) ?_
 rw [hv3]
 rintro v _ _ - ⟨rfl, rfl, hv⟩
 obtain rfl : v = .iface 9 (.string d.name) := hv
 refine hz_ ?_
 refine WL.call rfl Tryz.call65 rfl rfl (by exact (h.ent.val 62)) ?_
 rw [hv62]
 rintro v _ _ - ⟨rfl, rfl, hv⟩
 obtain rfl : v = .iface 2 (.int .i64 1) := hv
 refine hz_ ?_
 (refine WL.alloc tab_ok rfl rfl ?_; intro b)
 refine WL.fresh (b := b) pk_ (fun hfr => ?_)
 have hop := h.open_ htp hfr
 refine hz_ ?_
 refine WL.mapNew tab_ok rfl rfl rfl rfl rfl pk_ hkeys hmiss ?_
 refine hz_ ?_
 refine WL.assertI tab_ok rfl rfl (by kernel_rfl) rfl ?_
 refine hz_ ?_
 refine WL.invoke rfl (fun w => meth1 tab_ok (t := 190) (s := 194) (by kernel_rfl) (by rfl) (by rfl) (by rfl) (by rfl) (by rfl) (by rfl) _ _ w) Tryz.call165 rfl rfl basic_ok ?_
 rintro _ _ _ - ⟨rfl, rfl, rfl⟩
 refine hz_ ?_
 refine WL.call rfl Tryz.call65 rfl rfl (by exact (h.ent.val 13)) ?_
 rw [hv13]
 rintro v _ _ - ⟨rfl, rfl, hv⟩
 simp only at hv
 subst hv
 refine hz_ ?_
 refine WL.call rfl Tryz.call65 rfl rfl (by exact (h.ent.val 12)) ?_
 rw [hv12]
 rintro v _ _ - ⟨rfl, rfl, hv⟩
 simp only at hv
 subst hv
 refine hz_ ?_
 refine WL.call rfl Tryz.call65 rfl rfl (by exact (h.ent.val 107)) ?_
 rw [hv107]
 rintro v _ _ - ⟨rfl, rfl, hv⟩
 simp only at hv
 subst hv
 refine hz_ ?_
 exact WE.mid ⟨o, ou, _, c + 1, sl, td, Hv, _, b, [.string d.name, .int .i64 0, .int .i64 0, .int .i64 0], rfl, Env.le.rfl' _, rfl, h.ux, hop.ts, h.ow, hop.ext, BM.put_same, by unfold FinC; rw [if_neg (by omega), if_neg (by omega), if_neg (by omega), if_neg (by omega), if_neg (by omega), if_neg (by omega), if_neg (by omega)]⟩ sr_ sn_
theorem sw2 (h : SWH Γ pd pu pm pf pr l ds n nm pe b6 b7 b8 b10 b11 b16 b21 O B es td sl Hv F ou o j d) (hk : d.kind = 2) : SwG l ds d pu pm pf pr pe b6 b7 b8 b10 b11 b16 b17 b21 c O B es td sl Hv F ou o Γ j := by
 intro Q D hNP
 have hok := h.ok
 have htp : tyP d.kind = 195 := by rw [hk]; rfl
 have hto : tyO d.kind = 196 := by rw [hk]; rfl
 obtain ⟨htag, hv3, hv62, hv11, hvn⟩ := hdBa (v := l.vers) (l := l) (ds := ds) hok.d0.s0 hok.d0.s1 (by omega : 1 ≤ d.kind) (by omega)
 have hv12 := hvn 12 (by omega)
 have hv107 := hvn 107 (by omega)
 have hv13 := hvn 13 (by omega)
 rw [hk] at hv62
 have hbx := h.bx
 unfold SwR
 rw [htag, htp, hto]
 have g10 := h.bx.c10
 have g16 := h.bx.c16
 obtain ⟨hkeys, hmiss⟩ := h.key
 refine hz_ ?_
 refine WL.call rfl Tryz.call65 rfl rfl (by exact (h.ent.val 3)) ?_
 rw [hv3]
 rintro v _ _ - ⟨rfl, rfl, hv⟩
 obtain rfl : v = .iface 9 (.string d.name) := hv
 refine hz_ ?_
 refine WL.call rfl Tryz.call65 rfl rfl (by exact (h.ent.val 62)) ?_
 rw [hv62]
 rintro v _ _ - ⟨rfl, rfl, hv⟩
 obtain rfl : v = .iface 2 (.int .i64 2) := hv
 refine hz_ ?_
 (refine WL.alloc tab_ok rfl rfl ?_; intro b)
 refine WL.fresh (b := b) pk_ (fun hfr => ?_)
 have hop := h.open_ htp hfr
 refine hz_ ?_
 refine WL.mapNew tab_ok rfl rfl rfl rfl rfl pk_ hkeys hmiss ?_
 refine hz_ ?_
 refine WL.assertI tab_ok rfl rfl (by kernel_rfl) rfl ?_
 refine hz_ ?_
 refine WL.invoke rfl (fun w => meth1 tab_ok (t := 195) (s := 196) (by kernel_rfl) (by rfl) (by rfl) (by rfl) (by rfl) (by rfl) (by rfl) _ _ w) Tryz.call165 rfl rfl basic_ok ?_
 rintro _ _ _ - ⟨rfl, rfl, rfl⟩
 refine hz_ ?_
 refine WL.call rfl Tryz.call65 rfl rfl (by exact (h.ent.val 13)) ?_
 rw [hv13]
 rintro v _ _ - ⟨rfl, rfl, hv⟩
 simp only at hv
 subst hv
 refine hz_ ?_
 refine WL.call rfl Tryz.call65 rfl rfl (by exact (h.ent.val 12)) ?_
 rw [hv12]
 rintro v _ _ - ⟨rfl, rfl, hv⟩
 simp only at hv
 subst hv
 refine hz_ ?_
 refine WL.call rfl Tryz.call65 rfl rfl (by exact (h.ent.val 107)) ?_
 rw [hv107]
 rintro v _ _ - ⟨rfl, rfl, hv⟩
 simp only at hv
 subst hv
 refine hz_ ?_
 exact WE.mid ⟨o, ou, _, c + 1, sl, td, Hv, _, b, [.string d.name, .int .i64 0, .int .i64 0, .int .i64 0], rfl, Env.le.rfl' _, rfl, h.ux, hop.ts, h.ow, hop.ext, BM.put_same, by unfold FinC; rw [if_neg (by omega), if_neg (by omega), if_neg (by omega), if_neg (by omega), if_neg (by omega), if_neg (by omega), if_neg (by omega)]⟩ sr_ sn_
theorem sw3 (h : SWH Γ pd pu pm pf pr l ds n nm pe b6 b7 b8 b10 b11 b16 b21 O B es td sl Hv F ou o j d) (hk : d.kind = 3) : SwG l ds d pu pm pf pr pe b6 b7 b8 b10 b11 b16 b17 b21 c O B es td sl Hv F ou o Γ j := by
 intro Q D hNP
 have hok := h.ok
 have htp : tyP d.kind = 197 := by rw [hk]; rfl
 have hto : tyO d.kind = 198 := by rw [hk]; rfl
 obtain ⟨htag, hv3, hv62, hv11, hvn⟩ := hdBa (v := l.vers) (l := l) (ds := ds) hok.d0.s0 hok.d0.s1 (by omega : 1 ≤ d.kind) (by omega)
 have hv12 := hvn 12 (by omega)
 have hv107 := hvn 107 (by omega)
 have hv13 := hvn 13 (by omega)
 rw [hk] at hv62
 have hbx := h.bx
 unfold SwR
 rw [htag, htp, hto]
 have g10 := h.bx.c10
 have g16 := h.bx.c16
 obtain ⟨hkeys, hmiss⟩ := h.key
 refine hz_ ?_
 refine WL.call rfl Tryz.call65 rfl rfl (by exact (h.ent.val 3)) ?_
 rw [hv3]
 rintro v _ _ - ⟨rfl, rfl, hv⟩
 obtain rfl : v = .iface 9 (.string d.name) := hv
 refine hz_ ?_
 refine WL.call rfl Tryz.call65 rfl rfl (by exact (h.ent.val 62)) ?_
 rw [hv62]
 rintro v _ _ - ⟨rfl, rfl, hv⟩
 obtain rfl : v = .iface 2 (.int .i64 3) := hv
 refine hz_ ?_
 (refine WL.alloc tab_ok rfl rfl ?_; intro b)
 refine WL.fresh (b := b) pk_ (fun hfr => ?_)
 have hop := h.open_ htp hfr
 refine hz_ ?_
 rw [show (d.name.toList == sComplex.toList) = false from beq_eq_false_iff_ne.2 fun e => hok.d2.cpx hk (bts_ext e)]
 refine hz_ ?_
 refine WL.mapNew tab_ok rfl rfl rfl rfl rfl pk_ hkeys hmiss ?_
 refine hz_ ?_
 refine WL.assertI tab_ok rfl rfl (by kernel_rfl) rfl ?_
 refine hz_ ?_
 refine WL.invoke rfl (fun w => meth1 tab_ok (t := 197) (s := 198) (by kernel_rfl) (by rfl) (by rfl) (by rfl) (by rfl) (by rfl) (by rfl) _ _ w) Tryz.call165 rfl rfl basic_ok ?_
 rintro _ _ _ - ⟨rfl, rfl, rfl⟩
 refine hz_ ?_
 refine WL.call rfl Tryz.call65 rfl rfl (by exact (h.ent.val 13)) ?_
 rw [hv13]
 rintro v _ _ - ⟨rfl, rfl, hv⟩
 simp only at hv
 subst hv
 refine hz_ ?_
 refine WL.call rfl Tryz.call65 rfl rfl (by exact (h.ent.val 12)) ?_
 rw [hv12]
 rintro v _ _ - ⟨rfl, rfl, hv⟩
 simp only at hv
 subst hv
 refine hz_ ?_
 refine WL.call rfl Tryz.call65 rfl rfl (by exact (h.ent.val 107)) ?_
 rw [hv107]
 rintro v _ _ - ⟨rfl, rfl, hv⟩
 simp only at hv
 subst hv
 refine hz_ ?_
 exact WE.mid ⟨o, ou, _, c + 1, sl, td, Hv, _, b, [.string d.name, .int .i64 0, .int .i64 0, .int .i64 0], rfl, Env.le.rfl' _, rfl, h.ux, hop.ts, h.ow, hop.ext, BM.put_same, by unfold FinC; rw [if_neg (by omega), if_neg (by omega), if_neg (by omega), if_neg (by omega), if_neg (by omega), if_neg (by omega), if_neg (by omega)]⟩ sr_ sn_
theorem sw4 (h : SWH Γ pd pu pm pf pr l ds n nm pe b6 b7 b8 b10 b11 b16 b21 O B es td sl Hv F ou o j d) (hk : d.kind = 4) : SwG l ds d pu pm pf pr pe b6 b7 b8 b10 b11 b16 b17 b21 c O B es td sl Hv F ou o Γ j := by
 intro Q D hNP
 have hok := h.ok
 have htp : tyP d.kind = 199 := by rw [hk]; rfl
 have hto : tyO d.kind = 200 := by rw [hk]; rfl
 obtain ⟨htag, hv3, hv62, hv11, hvn⟩ := hdBa (v := l.vers) (l := l) (ds := ds) hok.d0.s0 hok.d0.s1 (by omega : 1 ≤ d.kind) (by omega)
 have hv12 := hvn 12 (by omega)
 have hv107 := hvn 107 (by omega)
 have hv13 := hvn 13 (by omega)
 rw [hk] at hv62
 have hbx := h.bx
 unfold SwR
 rw [htag, htp, hto]
 have g10 := h.bx.c10
 have g16 := h.bx.c16
 obtain ⟨hkeys, hmiss⟩ := h.key
 refine hz_ ?_
 refine WL.call rfl Tryz.call65 rfl rfl (by exact (h.ent.val 3)) ?_
 rw [hv3]
 rintro v _ _ - ⟨rfl, rfl, hv⟩
 obtain rfl : v = .iface 9 (.string d.name) := hv
 refine hz_ ?_
 refine WL.call rfl Tryz.call65 rfl rfl (by exact (h.ent.val 62)) ?_
 rw [hv62]
 rintro v _ _ - ⟨rfl, rfl, hv⟩
 obtain rfl : v = .iface 2 (.int .i64 4) := hv
 refine hz_ ?_
 (refine WL.alloc tab_ok rfl rfl ?_; intro b)
 refine WL.fresh (b := b) pk_ (fun hfr => ?_)
 have hop := h.open_ htp hfr
 refine hz_ ?_
 refine WL.mapNew tab_ok rfl rfl rfl rfl rfl pk_ hkeys hmiss ?_
 refine hz_ ?_
 refine WL.assertI tab_ok rfl rfl (by kernel_rfl) rfl ?_
 refine hz_ ?_
 refine WL.invoke rfl (fun w => meth1 tab_ok (t := 199) (s := 200) (by kernel_rfl) (by rfl) (by rfl) (by rfl) (by rfl) (by rfl) (by rfl) _ _ w) Tryz.call165 rfl rfl basic_ok ?_
 rintro _ _ _ - ⟨rfl, rfl, rfl⟩
 refine hz_ ?_
 refine WL.call rfl Tryz.call65 rfl rfl (by exact (h.ent.val 13)) ?_
 rw [hv13]
 rintro v _ _ - ⟨rfl, rfl, hv⟩
 simp only at hv
 subst hv
 refine hz_ ?_
 refine WL.call rfl Tryz.call65 rfl rfl (by exact (h.ent.val 12)) ?_
 rw [hv12]
 rintro v _ _ - ⟨rfl, rfl, hv⟩
 simp only at hv
 subst hv
 refine hz_ ?_
 refine WL.call rfl Tryz.call65 rfl rfl (by exact (h.ent.val 107)) ?_
 rw [hv107]
 rintro v _ _ - ⟨rfl, rfl, hv⟩
 simp only at hv
 subst hv
 refine hz_ ?_
 exact WE.mid ⟨o, ou, _, c + 1, sl, td, Hv, _, b, [.string d.name, .int .i64 0, .int .i64 0, .int .i64 0], rfl, Env.le.rfl' _, rfl, h.ux, hop.ts, h.ow, hop.ext, BM.put_same, by unfold FinC; rw [if_neg (by omega), if_neg (by omega), if_neg (by omega), if_neg (by omega), if_neg (by omega), if_neg (by omega), if_neg (by omega)]⟩ sr_ sn_
theorem sw5 (h : SWH Γ pd pu pm pf pr l ds n nm pe b6 b7 b8 b10 b11 b16 b21 O B es td sl Hv F ou o j d) (hk : d.kind = 5) : SwG l ds d pu pm pf pr pe b6 b7 b8 b10 b11 b16 b17 b21 c O B es td sl Hv F ou o Γ j := by
 intro Q D hNP
 have hok := h.ok
 have htp : tyP d.kind = 201 := by rw [hk]; rfl
 have hto : tyO d.kind = 202 := by rw [hk]; rfl
 obtain ⟨htag, hv3, hv62, hv11, hvn⟩ := hdBa (v := l.vers) (l := l) (ds := ds) hok.d0.s0 hok.d0.s1 (by omega : 1 ≤ d.kind) (by omega)
 have hv12 := hvn 12 (by omega)
 have hv107 := hvn 107 (by omega)
 have hv13 := hvn 13 (by omega)
 rw [hk] at hv62
 have hbx := h.bx
 unfold SwR
 rw [htag, htp, hto]
 have g10 := h.bx.c10
 have g16 := h.bx.c16
 obtain ⟨hkeys, hmiss⟩ := h.key
 refine hz_ ?_
 refine WL.call rfl Tryz.call65 rfl rfl (by exact (h.ent.val 3)) ?_
 rw [hv3]
 rintro v _ _ - ⟨rfl, rfl, hv⟩
 obtain rfl : v = .iface 9 (.string d.name) := hv
 refine hz_ ?_
 refine WL.call rfl Tryz.call65 rfl rfl (by exact (h.ent.val 62)) ?_
 rw [hv62]
 rintro v _ _ - ⟨rfl, rfl, hv⟩
 obtain rfl : v = .iface 2 (.int .i64 5) := hv
 refine hz_ ?_
 (refine WL.alloc tab_ok rfl rfl ?_; intro b)
 refine WL.fresh (b := b) pk_ (fun hfr => ?_)
 have hop := h.open_ htp hfr
 refine hz_ ?_
 refine WL.mapNew tab_ok rfl rfl rfl rfl rfl pk_ hkeys hmiss ?_
 refine hz_ ?_
 refine WL.assertI tab_ok rfl rfl (by kernel_rfl) rfl ?_
 refine hz_ ?_
 refine WL.invoke rfl (fun w => meth1 tab_ok (t := 201) (s := 202) (by kernel_rfl) (by rfl) (by rfl) (by rfl) (by rfl) (by rfl) (by rfl) _ _ w) Tryz.call165 rfl rfl basic_ok ?_
 rintro _ _ _ - ⟨rfl, rfl, rfl⟩
 refine hz_ ?_
 refine WL.call rfl Tryz.call65 rfl rfl (by exact (h.ent.val 13)) ?_
 rw [hv13]
 rintro v _ _ - ⟨rfl, rfl, hv⟩
 simp only at hv
 subst hv
 refine hz_ ?_
 refine WL.call rfl Tryz.call65 rfl rfl (by exact (h.ent.val 12)) ?_
 rw [hv12]
 rintro v _ _ - ⟨rfl, rfl, hv⟩
 simp only at hv
 subst hv
 refine hz_ ?_
 refine WL.call rfl Tryz.call65 rfl rfl (by exact (h.ent.val 107)) ?_
 rw [hv107]
 rintro v _ _ - ⟨rfl, rfl, hv⟩
 simp only at hv
 subst hv
 refine hz_ ?_
 exact WE.mid ⟨o, ou, _, c + 1, sl, td, Hv, _, b, [.string d.name, .int .i64 0, .int .i64 0, .int .i64 0], rfl, Env.le.rfl' _, rfl, h.ux, hop.ts, h.ow, hop.ext, BM.put_same, by unfold FinC; rw [if_neg (by omega), if_neg (by omega), if_neg (by omega), if_neg (by omega), if_neg (by omega), if_neg (by omega), if_neg (by omega)]⟩ sr_ sn_
theorem sw6 (h : SWH Γ pd pu pm pf pr l ds n nm pe b6 b7 b8 b10 b11 b16 b21 O B es td sl Hv F ou o j d) (hk : d.kind = 6) : SwG l ds d pu pm pf pr pe b6 b7 b8 b10 b11 b16 b17 b21 c O B es td sl Hv F ou o Γ j := by
 intro Q D hNP
 have hok := h.ok
 have htp : tyP d.kind = 205 := by rw [hk]; rfl
 have hto : tyO d.kind = 206 := by rw [hk]; rfl
 obtain ⟨htag, hv3, hv62, hv11, hvn⟩ := hdBa (v := l.vers) (l := l) (ds := ds) hok.d0.s0 hok.d0.s1 (by omega : 1 ≤ d.kind) (by omega)
 have hv12 := hvn 12 (by omega)
 have hv107 := hvn 107 (by omega)
 have hv13 := hvn 13 (by omega)
 rw [hk] at hv62
 have hbx := h.bx
 unfold SwR
 rw [htag, htp, hto]
 have g10 := h.bx.c10
 have g16 := h.bx.c16
 obtain ⟨hkeys, hmiss⟩ := h.key
 refine hz_ ?_
 refine WL.call rfl Tryz.call65 rfl rfl (by exact (h.ent.val 3)) ?_
 rw [hv3]
 rintro v _ _ - ⟨rfl, rfl, hv⟩
 obtain rfl : v = .iface 9 (.string d.name) := hv
 refine hz_ ?_
 refine WL.call rfl Tryz.call65 rfl rfl (by exact (h.ent.val 62)) ?_
 rw [hv62]
 rintro v _ _ - ⟨rfl, rfl, hv⟩
 obtain rfl : v = .iface 2 (.int .i64 6) := hv
 refine hz_ ?_
 (refine WL.alloc tab_ok rfl rfl ?_; intro b)
 refine WL.fresh (b := b) pk_ (fun hfr => ?_)
 have hop := h.open_ htp hfr
 refine hz_ ?_
 refine WL.mapNew tab_ok rfl rfl rfl rfl rfl pk_ hkeys hmiss ?_
 refine hz_ ?_
 refine WL.assertI tab_ok rfl rfl (by kernel_rfl) rfl ?_
 refine hz_ ?_
 refine WL.invoke rfl (fun w => meth1 tab_ok (t := 205) (s := 206) (by kernel_rfl) (by rfl) (by rfl) (by rfl) (by rfl) (by rfl) (by rfl) _ _ w) Tryz.call165 rfl rfl basic_ok ?_
 rintro _ _ _ - ⟨rfl, rfl, rfl⟩
 refine hz_ ?_
 refine WL.call rfl Tryz.call65 rfl rfl (by exact (h.ent.val 13)) ?_
 rw [hv13]
 rintro v _ _ - ⟨rfl, rfl, hv⟩
 simp only at hv
 subst hv
 refine hz_ ?_
 refine WL.call rfl Tryz.call65 rfl rfl (by exact (h.ent.val 12)) ?_
 rw [hv12]
 rintro v _ _ - ⟨rfl, rfl, hv⟩
 simp only at hv
 subst hv
 refine hz_ ?_
 refine WL.call rfl Tryz.call65 rfl rfl (by exact (h.ent.val 107)) ?_
 rw [hv107]
 rintro v _ _ - ⟨rfl, rfl, hv⟩
 simp only at hv
 subst hv
 refine hz_ ?_
 exact WE.mid ⟨o, ou, _, c + 1, sl, td, Hv, _, b, [.string d.name, .int .i64 0, .int .i64 0, .int .i64 0], rfl, Env.le.rfl' _, rfl, h.ux, hop.ts, h.ow, hop.ext, BM.put_same, by unfold FinC; rw [if_neg (by omega), if_neg (by omega), if_neg (by omega), if_neg (by omega), if_neg (by omega), if_neg (by omega), if_neg (by omega)]⟩ sr_ sn_
theorem sw7 (h : SWH Γ pd pu pm pf pr l ds n nm pe b6 b7 b8 b10 b11 b16 b21 O B es td sl Hv F ou o j d) (hk : d.kind = 7) : SwG l ds d pu pm pf pr pe b6 b7 b8 b10 b11 b16 b17 b21 c O B es td sl Hv F ou o Γ j := by
 intro Q D hNP
 have hok := h.ok
 have htp : tyP d.kind = 203 := by rw [hk]; rfl
 have hto : tyO d.kind = 204 := by rw [hk]; rfl
 obtain ⟨htag, hv3, hv62, hv11, hvn⟩ := hdBa (v := l.vers) (l := l) (ds := ds) hok.d0.s0 hok.d0.s1 (by omega : 1 ≤ d.kind) (by omega)
 have hv12 := hvn 12 (by omega)
 have hv107 := hvn 107 (by omega)
 have hv13 := hvn 13 (by omega)
 rw [hk] at hv62
 have hbx := h.bx
 unfold SwR
 rw [htag, htp, hto]
 have g10 := h.bx.c10
 have g16 := h.bx.c16
 obtain ⟨hkeys, hmiss⟩ := h.key
 refine hz_ ?_
 refine WL.call rfl Tryz.call65 rfl rfl (by exact (h.ent.val 3)) ?_
 rw [hv3]
 rintro v _ _ - ⟨rfl, rfl, hv⟩
 obtain rfl : v = .iface 9 (.string d.name) := hv
 refine hz_ ?_
 refine WL.call rfl Tryz.call65 rfl rfl (by exact (h.ent.val 62)) ?_
 rw [hv62]
 rintro v _ _ - ⟨rfl, rfl, hv⟩
 obtain rfl : v = .iface 2 (.int .i64 7) := hv
 refine hz_ ?_
 (refine WL.alloc tab_ok rfl rfl ?_; intro b)
 refine WL.fresh (b := b) pk_ (fun hfr => ?_)
 have hop := h.open_ htp hfr
 refine hz_ ?_
 refine WL.mapNew tab_ok rfl rfl rfl rfl rfl pk_ hkeys hmiss ?_
 refine hz_ ?_
 refine WL.assertI tab_ok rfl rfl (by kernel_rfl) rfl ?_
 refine hz_ ?_
 refine WL.invoke rfl (fun w => meth1 tab_ok (t := 203) (s := 204) (by kernel_rfl) (by rfl) (by rfl) (by rfl) (by rfl) (by rfl) (by rfl) _ _ w) Tryz.call165 rfl rfl basic_ok ?_
 rintro _ _ _ - ⟨rfl, rfl, rfl⟩
 refine hz_ ?_
 refine WL.call rfl Tryz.call65 rfl rfl (by exact (h.ent.val 13)) ?_
 rw [hv13]
 rintro v _ _ - ⟨rfl, rfl, hv⟩
 simp only at hv
 subst hv
 refine hz_ ?_
 refine WL.call rfl Tryz.call65 rfl rfl (by exact (h.ent.val 12)) ?_
 rw [hv12]
 rintro v _ _ - ⟨rfl, rfl, hv⟩
 simp only at hv
 subst hv
 refine hz_ ?_
 refine WL.call rfl Tryz.call65 rfl rfl (by exact (h.ent.val 107)) ?_
 rw [hv107]
 rintro v _ _ - ⟨rfl, rfl, hv⟩
 simp only at hv
 subst hv
 refine hz_ ?_
 exact WE.mid ⟨o, ou, _, c + 1, sl, td, Hv, _, b, [.string d.name, .int .i64 0, .int .i64 0, .int .i64 0], rfl, Env.le.rfl' _, rfl, h.ux, hop.ts, h.ow, hop.ext, BM.put_same, by unfold FinC; rw [if_neg (by omega), if_neg (by omega), if_neg (by omega), if_neg (by omega), if_neg (by omega), if_neg (by omega), if_neg (by omega)]⟩ sr_ sn_
theorem sw8 (h : SWH Γ pd pu pm pf pr l ds n nm pe b6 b7 b8 b10 b11 b16 b21 O B es td sl Hv F ou o j d) (hk : d.kind = 8) : SwG l ds d pu pm pf pr pe b6 b7 b8 b10 b11 b16 b17 b21 c O B es td sl Hv F ou o Γ j := by
 intro Q D hNP
 have hok := h.ok
 have htp : tyP d.kind = 207 := by rw [hk]; rfl
 have hto : tyO d.kind = 208 := by rw [hk]; rfl
 obtain ⟨htag, hv3, hv62, hv11, hvn⟩ := hdBa (v := l.vers) (l := l) (ds := ds) hok.d0.s0 hok.d0.s1 (by omega : 1 ≤ d.kind) (by omega)
 have hv12 := hvn 12 (by omega)
 have hv107 := hvn 107 (by omega)
 have hv13 := hvn 13 (by omega)
 rw [hk] at hv62
 have hbx := h.bx
 unfold SwR
 rw [htag, htp, hto]
 have g10 := h.bx.c10
 have g16 := h.bx.c16
 obtain ⟨hkeys, hmiss⟩ := h.key
 refine hz_ ?_
 refine WL.call rfl Tryz.call65 rfl rfl (by exact (h.ent.val 3)) ?_
 rw [hv3]
 rintro v _ _ - ⟨rfl, rfl, hv⟩
 obtain rfl : v = .iface 9 (.string d.name) := hv
 refine hz_ ?_
 refine WL.call rfl Tryz.call65 rfl rfl (by exact (h.ent.val 62)) ?_
 rw [hv62]
 rintro v _ _ - ⟨rfl, rfl, hv⟩
 obtain rfl : v = .iface 2 (.int .i64 8) := hv
 refine hz_ ?_
 (refine WL.alloc tab_ok rfl rfl ?_; intro b)
 refine WL.fresh (b := b) pk_ (fun hfr => ?_)
 have hop := h.open_ htp hfr
 refine hz_ ?_
 refine WL.mapNew tab_ok rfl rfl rfl rfl rfl pk_ hkeys hmiss ?_
 refine hz_ ?_
 refine WL.assertI tab_ok rfl rfl (by kernel_rfl) rfl ?_
 refine hz_ ?_
 refine WL.invoke rfl (fun w => meth1 tab_ok (t := 207) (s := 208) (by kernel_rfl) (by rfl) (by rfl) (by rfl) (by rfl) (by rfl) (by rfl) _ _ w) Tryz.call165 rfl rfl basic_ok ?_
 rintro _ _ _ - ⟨rfl, rfl, rfl⟩
 refine hz_ ?_
 refine WL.call rfl Tryz.call65 rfl rfl (by exact (h.ent.val 13)) ?_
 rw [hv13]
 rintro v _ _ - ⟨rfl, rfl, hv⟩
 simp only at hv
 subst hv
 refine hz_ ?_
 refine WL.call rfl Tryz.call65 rfl rfl (by exact (h.ent.val 12)) ?_
 rw [hv12]
 rintro v _ _ - ⟨rfl, rfl, hv⟩
 simp only at hv
 subst hv
 refine hz_ ?_
 refine WL.call rfl Tryz.call65 rfl rfl (by exact (h.ent.val 107)) ?_
 rw [hv107]
 rintro v _ _ - ⟨rfl, rfl, hv⟩
 simp only at hv
 subst hv
 refine hz_ ?_
 exact WE.mid ⟨o, ou, _, c + 1, sl, td, Hv, _, b, [.string d.name, .int .i64 0, .int .i64 0, .int .i64 0], rfl, Env.le.rfl' _, rfl, h.ux, hop.ts, h.ow, hop.ext, BM.put_same, by unfold FinC; rw [if_neg (by omega), if_neg (by omega), if_neg (by omega), if_neg (by omega), if_neg (by omega), if_neg (by omega), if_neg (by omega)]⟩ sr_ sn_
end
section
variable {Γ : Env} {pd pu : Nat} {l : Lay} {ds : List Df} {pm pf pr n : Nat} {nm : Value} {pe b6 b7 b8 b10 b11 b16 b17 b21 c : Nat} {O : List Nat} {B : BM} {es : List MapEntry} {td : TDs} {sl : Value} {Hv F : List Blk} {ou o : Obj} {j : Nat} {d : Df}
theorem sw11 (h : SWH Γ pd pu pm pf pr l ds n nm pe b6 b7 b8 b10 b11 b16 b21 O B es td sl Hv F ou o j d) (hk : d.kind = 11) : SwG l ds d pu pm pf pr pe b6 b7 b8 b10 b11 b16 b17 b21 c O B es td sl Hv F ou o Γ j := by
 intro Q D hNP
 have hok := h.ok
 have htp : tyP d.kind = 184 := by rw [hk]; rfl
 have hto : tyO d.kind = 186 := by rw [hk]; rfl
 obtain ⟨htag, hv73, hv11, hv46⟩ := hd11 (v := l.vers) h.tx.ok hok.d0.of1 hk
 have hbx := h.bx
 have hK : defK l (PLI l ds) d = d.cnts.map (cntN d.upper) := by unfold defK; rw [if_neg (by omega), if_pos hk]
 have hKf : ∀ x ∈ d.cnts, 0 < (cntN d.upper x).tag ∧ (cntN d.upper x).ch = false ∧ (cntN d.upper x).sib = false := fun x _ => ⟨by show (0 : Int) < 33; decide, rfl, rfl⟩
 have hcl := hok.d0.cntl
 have hcp := hok.arrn hk
 unfold SwR
 rw [htag, htp, hto]
 have g10 := h.bx.c10
 have g16 := h.bx.c16
 obtain ⟨hkeys, hmiss⟩ := h.key
 refine hz_ ?_
 (refine WL.alloc tab_ok rfl rfl ?_; intro b)
 refine WL.fresh (b := b) pk_ (fun hfr => ?_)
 have hop := h.open_ htp hfr
 refine hz_ ?_
 refine WL.mapNew tab_ok rfl rfl rfl rfl rfl pk_ hkeys hmiss ?_
 refine hz_ ?_
 refine WL.re' (H' := RSH pu ou pm (es ++ [MapEntry.mk (.int .u32 ((nodO l ds (rtI ds j) : Nat) : Int)) (pkey 184 b) c]) (c + 1) pf sl td Hv ((b17, cel [.nilIface] 77) :: (b, cel [.int .i64 0, noStr, .nilIface, .int .i64 0, .int .i64 0] 186) :: (pr, o) :: F)) sn_ ?_
 refine WL.call rfl Tryz.call64 rfl rfl (by exact (typeOf_ok h.ih h.tx h.ux hop.ts (hop.op (G := [(pr, o)])) h.ow hop.ms h.ent hv73 hok.d0.of0 hok.d0.of1 (Pick.there Pick.here) h.rd (.inl hbx.c6) (.inl hbx.c7) (.inl hbx.c8) (.inl hbx.c10) (.inl hbx.c11))) ?_
 rintro _ Γ1 _ hle ⟨ou1, es1, c1, sl1, td1, Hv1, B1, hkv, hext, hu1, hS1, how1, rfl⟩
 obtain ⟨tv, bv, rfl⟩ := hkv.ex
 have g16' := hle.cell g16
 refine hz_ ?_
 refine WL.call rfl Tryz.call65 rfl rfl (by exact ((h.ent.mono hle).val 46)) ?_
 rw [hv46]
 rintro v _ _ - ⟨rfl, rfl, hv⟩
 simp only at hv
 subst hv
 refine hz_ ?_
 refine WL.call rfl Tryz.call63 rfl rfl (by exact (h.next hK hKf hle hu1 pk_ pk_ (h.rd.mono hle) (Nat.zero_le _))) ?_
 rintro v26 Γ2 _ hle2 ⟨o2, rfl, hnx⟩
 refine hz_ ?_
 have hI : ∀ z : Int, IntKind.i64.wrap (z - 1 + 1) = IntKind.i64.wrap z := fun z => by rw [Int.sub_add_cancel]
 refine WC.loopE (fun m R' Γ' H' => ∃ k v25 v26 o' Hd, R' = [(3, .int .u32 ((nodO l ds (rtI ds j) : Nat) : Int)), (11, .pointer (some ⟨b11, 0, none⟩)), (16, .pointer (some ⟨b16, 0, none⟩)), (17, .pointer (some ⟨b17, 0, none⟩)), (18, .int .i64 l.size), (20, pkey 184 b), (22, .func (.func 63) #[] #[.pointer (some ⟨b16, 0, none⟩), .pointer (some ⟨b8, 0, none⟩), .pointer (some ⟨b17, 0, none⟩), .pointer (some ⟨b7, 0, none⟩), .pointer (some ⟨b21, 0, none⟩)]), (24, .pointer (some ⟨b, 0, none⟩)), (25, v25), (26, v26)] ∧ m = d.cnts.length - k ∧ k ≤ d.cnts.length ∧ Γ2.le Γ' ∧ Ow 1 v25 k ((d.cnts.take k).map fun z => Value.int .i64 z) Hd ∧
   KidN Γ' pd pu l ds j k v26 o' ((d.cnts[k]?).map (cntN d.upper)) ∧
   H' = Hd ++ ((b, cel [.int .i64 0, noStr, pkey tv bv, .int .i64 0, .int .i64 0] 186) :: (b17, cel [.nilIface] 77) :: (pr, o') :: RSH pu ou1 pm es1 c1 pf sl1 td1 Hv1 F))
  ⟨0, _, v26, o2, [], rfl, rfl, Nat.zero_le _, Env.le.rfl' _, Ow.nil, hnx, rfl⟩ sr_ sn_ ?_
 rintro m R' Γ3 H' ⟨k, v25, v26', o3, Hd, rfl, rfl, hkl, hle3, how3, hnx3, rfl⟩
 rcases Nat.lt_or_ge k d.cnts.length with hlt | hge
 case inr =>
  have ek : k = d.cnts.length := by omega
  subst ek
  rw [List.getElem?_eq_none (Nat.le_refl _)] at hnx3
  obtain rfl : v26' = .pointer none := hnx3
  rw [List.take_length] at how3
  obtain ⟨a9, c9, rfl⟩ := Ow.shape how3
  refine hz_ ?_
  rw [show (((d.cnts.length : Nat) : Int) == 0) = false from beq_eq_false_iff_ne.2 (by omega)]
  refine hz_ ?_
  refine WL.keep how3 tk_ (fun Γ4 hle4 him => ?_)
  have hA := Im.arr him (numC_lis d.cnts)
  obtain ⟨n0, hn0⟩ : ∃ z, d.cnts[0]? = some z := ⟨_, List.getElem?_eq_getElem hcp⟩
  obtain ⟨aA, capA, cellsA, eA, hcapA, hIA, hLA⟩ := hA
  injection eA with e1 e2 e3
  subst e1 e3
  have hel : ∀ {i : Nat} {z : Int}, d.cnts[i]? = some z → ∃ bb oo, a9 = some ⟨bb, oo, none⟩ ∧ Γ4.cell bb (oo + i * 1) = some (.int .i64 z) := fun {i z} hz => by
   obtain ⟨bb, oo, cc, rfl, hP, hc⟩ := elemA hIA hLA (fun _ _ h => NumC.len h) (w := 1) (by decide) hz
   cases hP
   exact ⟨bb, oo, rfl, hc.1⟩
  obtain ⟨bb0, oo0, ea, hc0⟩ := hel hn0
  subst ea
  refine hz_ ?_
  rw [show IntKind.i64.wrap (((d.cnts.length : Nat) : Int) - 1) = ((d.cnts.length - 1 : Nat) : Int) by rw [w_i64 (by omega) (by omega)]; omega]
  have hle14 := hle.trans (hle2.trans (hle3.trans hle4))
  have hS4 := hS1.mono (hle2.trans (hle3.trans hle4))
  have hkv4 := hkv.mono (hle2.trans (hle3.trans hle4)) (BM.le.rfl' B1)
  have hB0 : B1 j 0 = some b := hext.1 _ _ _ BM.put_same
  have hBn : ∀ q, B1 j (q + 1) = none := fun q => by
   rw [hext.2 j (List.mem_cons_self ..), BM.put_ne (fun hc => by cases hc.2)]; exact h.none _
  refine WC.loopE (fun m R' Γ' H' => ∃ i tv' bv' B', R' = [(3, .int .u32 ((nodO l ds (rtI ds j) : Nat) : Int)), (11, .pointer (some ⟨b11, 0, none⟩)), (16, .pointer (some ⟨b16, 0, none⟩)), (17, .pointer (some ⟨b17, 0, none⟩)), (18, .int .i64 l.size), (20, pkey 184 b), (24, .pointer (some ⟨b, 0, none⟩)), (25, .slice (some ⟨bb0, oo0, none⟩) d.cnts.length c9), (29, .int .i64 ((i : Nat) : Int))] ∧ m = i ∧ i < d.cnts.length ∧ Γ4.le Γ' ∧ TS Γ' l ds (j :: O) B' es1 td1 ∧ BM.ext O B1 B' ∧ B' j 0 = some b ∧ (∀ q, q + 1 ≤ i → B' j (q + 1) = none) ∧ DirC Γ' B' ds j d (i + 1) (pkey tv' bv') ∧
    H' = (b, cel [.int .i64 0, noStr, pkey tv' bv', .int .i64 0, .int .i64 n0] 186) :: (b17, cel [.nilIface] 77) :: (pr, o3) :: RSH pu ou1 pm es1 c1 pf sl1 td1 Hv1 F)
   ⟨d.cnts.length - 1, tv, bv, B1, rfl, rfl, by omega, Env.le.rfl' _, hS4, BM.ext.rfl' _ _, hB0, fun q _ => hBn q, by unfold DirC; rw [if_neg (by omega)]; exact hkv4, rfl⟩ sr_ sn_ ?_
  rintro m R' Γ5 H' ⟨i, tv', bv', B5, rfl, rfl, hil, hle5, hS5, hext5, hB5, hBn5, hD5, rfl⟩
  cases m with
  | zero =>
   refine hz_ ?_
   exact WE.mid ⟨o3, ou1, es1, c1, sl1, td1, Hv1, B5, b, [noStr, pkey tv' bv', .int .i64 0, .int .i64 n0], rfl, hle14.trans hle5, rfl, hu1.mono (hle2.trans (hle3.trans (hle4.trans hle5))), hS5, how1, (hop.ext.trans (hext.sub fun x hx => List.mem_cons_of_mem _ hx)).trans hext5, hB5, by unfold FinC; rw [if_neg (by omega), if_neg (by omega), if_pos hk]; exact ⟨_, _, rfl, hn0, hD5⟩⟩ sr_ sn_
  | succ i =>
   obtain ⟨z, hz⟩ : ∃ z, d.cnts[i + 1]? = some z := ⟨_, List.getElem?_eq_getElem hil⟩
   obtain ⟨bbz, ooz, ez, hcz⟩ := hel hz
   injection ez with ez
   injection ez with ez1 ez2
   subst ez1 ez2
   have hcz' := hle5.cell hcz
   refine hz_ ?_
   refine WC.condT rfl (decide_eq_true (by omega)) ?_
   refine hz_ ?_
   refine WC.draw 14 (.take 0 (.take 1 (.take 2 (.take 3 (.take 5 (.take 6 (.take 7 (.take 8 (.one 4 (.take 9 (.one 10 (.take 11 (.one 12 (.take 13 (.one 14 .done))))))))))))))) ([] : List Blk) mixed hsb_ (by decide +kernel) ?_
   refine jz_ ?_
   (refine WL.box rfl spi_ rfl ?_; intro bn)
   refine WL.fresh (b := bn) pk_ (fun hfn => ?_)
   have hfr5 : ∀ x y w, B5 x y = some w → w ≠ bn := fun x y w e => hfn w (hS5.live (F := (b, cel [.int .i64 0, noStr, pkey tv' bv', .int .i64 0, .int .i64 n0] 186) :: F) ((fun x hx => by
    rcases List.mem_cons.1 hx with rfl | hx
    ·exact ⟨b, hB5, Lv.here⟩
    ·obtain ⟨b', g1, g2⟩ := h.op x hx
     refine ⟨b', ?_, ((g2.mono (hle14.trans hle5)).cons)⟩
     exact hext5.1 _ _ _ (hext.1 _ _ _ (BM.put_le h.b0 _ _ _ g1)))) (fun q hq => by
      simp only [List.map_cons, List.map_append, List.mem_cons, List.mem_append] at hq ⊢
      rcases hq with hq | hq <;> simp [hq]) (fun q hq => by
      simp only [List.map_cons, List.map_append, List.mem_cons, List.mem_append]; simp [hq]) e)
   refine jz_ ?_
   refine hz_ ?_
   refine WE.freeze (b := bn) pk_ (fun hleb => ?_)
   rw [show IntKind.i64.wrap (((i + 1 : Nat) : Int) - 1) = ((i : Nat) : Int) by rw [w_i64 (by omega) (by omega)]; omega]
   have hBi : B5 j (i + 1) = none := hBn5 i (Nat.le_refl _)
   have hoA : ObjA (Γ5.add bn (cel [.int .i64 0, .string ⟨#[]⟩, pkey tv' bv', .int .i64 0, .int .i64 z] 186)) B5 ds j d (i + 1) bn := ⟨0, z, pkey tv' bv', hz, by simp [Env.add]; rfl, hD5.mono hleb (BM.le.rfl' _)⟩
   exact WE.again ⟨i, 184, bn, B5.put j (i + 1) bn, rfl, rfl, by omega, hle5.trans hleb, (hS5.mono hleb).dir_ h.dj hk hBi ⟨b, hB5⟩ hfr5 hoA, hext5.trans (BM.ext_put hBi h.jO), BM.put_le hBi _ _ _ hB5,
    fun q hq => by rw [BM.put_ne (fun hc => by have := hc.2; omega)]; exact hBn5 q (by omega), by unfold DirC; rw [if_pos hil]; exact ⟨bn, BM.put_same, rfl⟩, rfl⟩ (by omega) sr_ sn_
 obtain ⟨x, hx⟩ : ∃ x, d.cnts[k]? = some x := ⟨_, List.getElem?_eq_getElem hlt⟩
 rw [hx] at hnx3
 obtain ⟨pk, ofk, rfl, hE3, hR3⟩ := hnx3
 have hxk := hok.cnt k x hx
 have hx0 := hxk.c0
 have hx1 := hxk.c1
 have hC := cntN_says (v := l.vers) (up := d.upper) hx0 hx1
 have t1 := hE3.tag
 have hle13 := hle.trans (hle2.trans hle3)
 obtain ⟨a9, c9, rfl⟩ := Ow.shape how3
 have hxl : d.cnts.take (k + 1) = d.cnts.take k ++ [x] := by rw [List.take_add_one, hx]; rfl
 have hu3 := hu1.mono (hle2.trans hle3)
 refine hz_ ?_
 refine WL.call rfl Tryz.call65 rfl rfl (by exact (hE3.val 55)) ?_
 rw [hC.cnt]
 rintro v _ _ - ⟨rfl, rfl, hv⟩
 by_cases hneg : x < 0
 ·have hk0 := hxk.neg hneg
  subst hk0
  have ex : x = -1 := by omega
  rw [if_pos (.inl hneg)] at hv
  simp only at hv
  subst hv
  refine hz_ ?_
  refine WL.call rfl Tryz.call65 rfl rfl (by exact (hE3.val 47)) ?_
  rw [hC.upp, if_pos (.inl hneg)]
  rintro v _ _ - ⟨rfl, rfl, hv⟩
  simp only at hv
  subst hv
  refine hz_ ?_
  (refine WL.lit tab_ok rfl rfl rfl rfl rfl rfl rfl spi_ rfl ?_; intro bq)
  refine hz_ ?_
  refine WL.append tab_ok rfl rfl rfl rfl rfl rfl rfl rfl how3 tk_ ((Ow.lit (s := 1) (b := bq) (k := 1) (l := [.int .i64 (-1)]) (T := 2) rfl).src tab_ok rfl t1_ (by simp [Value.oneCell'])) (by omega) (by omega) (fun v5 Hs5 how5 => ?_)
  refine hz_ ?_
  refine WL.call rfl Tryz.call63 rfl rfl (by exact (h.next hK hKf hle13 hu3 pk_ pk_ hR3 hlt)) ?_
  rintro v6 Γ6 _ hle6 ⟨o6, rfl, hnx6⟩
  refine hz_ ?_
  exact WE.again ⟨0 + 1, v5, v6, o6, Hs5, rfl, rfl, hlt, hle3.trans hle6, by rw [hxl, ex]; exact how5, hnx6, rfl⟩ (by omega) sr_ sn_
 cases hup : d.upper with
 | false =>
  rw [hup] at hv hC
  rw [if_neg (by rintro (hc | hc); exact hneg hc; cases hc)] at hv
  obtain rfl : v = .iface 2 (.int .i64 x) := hv
  refine hz_ ?_
  (refine WL.lit tab_ok rfl rfl rfl rfl rfl rfl rfl spi_ rfl ?_; intro bq)
  refine hz_ ?_
  refine WL.append tab_ok rfl rfl rfl rfl rfl rfl rfl rfl how3 tk_ ((Ow.lit (s := 1) (b := bq) (k := 1) (l := [.int .i64 x]) (T := 2) rfl).src tab_ok rfl t1_ (by simp [Value.oneCell'])) (by omega) (by omega) (fun v5 Hs5 how5 => ?_)
  refine hz_ ?_
  refine WL.call rfl Tryz.call63 rfl rfl (by exact (h.next hK hKf hle13 hu3 pk_ pk_ hR3 hlt)) ?_
  rintro v6 Γ6 _ hle6 ⟨o6, rfl, hnx6⟩
  refine hz_ ?_
  exact WE.again ⟨k + 1, v5, v6, o6, Hs5, rfl, rfl, hlt, hle3.trans hle6, by rw [hxl, List.map_append]; exact how5, by rw [hup] at hnx6; exact hnx6, rfl⟩ (by omega) sr_ sn_
 | true =>
  rw [hup] at hv hC
  rw [if_pos (.inr rfl)] at hv
  simp only at hv
  subst hv
  refine hz_ ?_
  refine WL.call rfl Tryz.call65 rfl rfl (by exact (hE3.val 47)) ?_
  rw [hup, hC.upp, if_neg (by rintro (hc | hc); exact hneg hc; cases hc)]
  rintro v _ _ - ⟨rfl, rfl, hv⟩
  obtain rfl : v = .iface 2 (.int .i64 (x - 1)) := hv
  refine hz_ ?_
  rw [show IntKind.i64.wrap (x - 1 + 1) = x by rw [Int.sub_add_cancel]; exact w_i64 (by omega) (by omega)]
  (refine WL.lit tab_ok rfl rfl rfl rfl rfl rfl rfl spi_ rfl ?_; intro bq)
  refine hz_ ?_
  refine WL.append tab_ok rfl rfl rfl rfl rfl rfl rfl rfl how3 tk_ ((Ow.lit (s := 1) (b := bq) (k := 1) (l := [.int .i64 x]) (T := 2) rfl).src tab_ok rfl t1_ (by simp [Value.oneCell'])) (by omega) (by omega) (fun v5 Hs5 how5 => ?_)
  refine hz_ ?_
  refine WL.call rfl Tryz.call63 rfl rfl (by exact (h.next hK hKf hle13 hu3 pk_ pk_ hR3 hlt)) ?_
  rintro v6 Γ6 _ hle6 ⟨o6, rfl, hnx6⟩
  refine hz_ ?_
  exact WE.again ⟨k + 1, v5, v6, o6, Hs5, rfl, rfl, hlt, hle3.trans hle6, by rw [hxl, List.map_append]; exact how5, by rw [hup] at hnx6; exact hnx6, rfl⟩ (by omega) sr_ sn_
end
end Go.Proofs.YtbgkbgoonjkghaaGreatDoor
namespace Go.Sl
open Go
theorem saddr0 {b cap s : Nat} : saddr (some ⟨b, 0, none⟩) cap 0 s = some ⟨b, 0, none⟩ := by
 unfold saddr
 split
 ·rfl
 ·simp [Addr.add]
theorem reps_add (a b : Nat) (z : List Value) : reps (a + b) z = reps a z ++ reps b z := by
 induction a with
 | zero => simp [reps]
 | succ a ih => rw [Nat.succ_add, reps, reps, ih, List.append_assoc]
theorem reps_two (k : Nat) (z : List Value) : reps (k * 2) z = reps k z ++ reps k z := by rw [Nat.mul_two]; exact reps_add k k z
theorem ow_open {s : Nat} {a : Option Addr} {k cap : Nat} {l : List Value} {Hd : List Blk} (h : Ow s (.slice a k cap) k l Hd) (h0 : 0 < cap) : ∃ b sp T fz, a = some ⟨b, 0, none⟩ ∧ k ≤ cap ∧ l.length = k * s ∧ sp.length + l.length = cap * s ∧ thawed fz (l ++ sp).length ∧ Hd = [(b, celF (l ++ sp) T fz)] := by
 cases h with
 | nil => omega
 | row h1 h2 h3 hz => exact ⟨_, _, _, _, rfl, h1, h2, h3, hz, rfl⟩
section
variable {P : Program} {ops : Array Oper} {Q : Post} {n : Nat} {D : List Deferred} {R : Regs} {Γ : Env} {H : List Blk} {rest : List Oper}
variable {d : Nat} {ty : TypeId} {pos : String} {aft : Array Edge}
theorem WL.copy0 {T : Tab} (hT : TabOk P T) {t tx e : TypeId} {x y : Operand} {j : TI} {b cap m : Nat} {u : Value} {old new : List Value} {Hd Hs F F2 : List Blk}
  (hx : ev R x = some (.slice (some ⟨b, 0, none⟩) m cap)) (hy : ev R y = some u) (ht : T.desc t = some (.slice e)) (hj : T.get e = some j) (hs1 : j.size = 1) (hd : Nat.blt d n = true)
  (how : Ow 1 (.slice (some ⟨b, 0, none⟩) m cap) m old Hd) (hsrc : Ow 1 u m new Hs) (hm0 : 0 < m)
  (hH : Tk H Hd F) (hF : Tk F Hs F2) (h1 : ∀ x ∈ new, x.oneCell' = true)
  (K : ∀ Hd', Ow 1 (.slice (some ⟨b, 0, none⟩) m cap) m new Hd' → WL P ops Q n D rest ((d, .int .i64 (m : Int)) :: R) Γ (Hd' ++ F)) :
  WL P ops Q n D (⟨some d, .call { callee := .builtin .copy, args := #[x, y], argTypes := #[t, tx] }, ty, pos, aft, none⟩ :: rest) R Γ H := by
 have hl := how.len
 refine WL.copyOw (lo := 0) (k := m) (cap := cap) (pre := []) (old := old) (post := []) (a0 := some ⟨b, 0, none⟩) hT (by rw [hx, saddr0, Nat.sub_zero, Nat.sub_zero]) hy ht hj hs1 hd (by simpa using how) rfl hsrc (by omega) hm0 hH hF h1 fun Hd' h => K Hd' (by simpa using h)
end
end Go.Sl
namespace Go.Proofs.YtbgkbgoonjkghaaGreatDoor
open Go Go.Sl
set_option maxRecDepth 10000
set_option maxHeartbeats 40000000
section
variable {Γ : Env} {pd pu : Nat} {l : Lay} {ds : List Df} {pm pf pr n : Nat} {nm : Value} {pe b6 b7 b8 b10 b11 b16 b17 b21 c : Nat} {O : List Nat} {B : BM} {es : List MapEntry} {td : TDs} {sl : Value} {Hv F : List Blk} {ou o : Obj} {j : Nat} {d : Df}
theorem sw14 (h : SWH Γ pd pu pm pf pr l ds n nm pe b6 b7 b8 b10 b11 b16 b21 O B es td sl Hv F ou o j d) (hk : d.kind = 14) : SwG l ds d pu pm pf pr pe b6 b7 b8 b10 b11 b16 b17 b21 c O B es td sl Hv F ou o Γ j := by
 intro Q D hNP
 have hok := h.ok
 have htp : tyP d.kind = 233 := by rw [hk]; rfl
 have hto : tyO d.kind = 236 := by rw [hk]; rfl
 obtain ⟨htag, hv3, hv11⟩ := hd14 (v := l.vers) (l := l) (ds := ds) hok.d0.s0 hok.d0.s1 hk
 have hbx := h.bx
 have hK : defK l (PLI l ds) d = d.cons.map conN := by unfold defK; rw [if_neg (by omega), if_neg (by omega), if_pos hk]
 have hKf : ∀ x ∈ d.cons, 0 < (conN x).tag ∧ (conN x).ch = false ∧ (conN x).sib = false := fun x _ => ⟨by show (0 : Int) < 40; decide, rfl, rfl⟩
 have hcl := hok.d0.conl
 unfold SwR
 rw [htag, htp, hto]
 have g10 := h.bx.c10
 have g16 := h.bx.c16
 obtain ⟨hkeys, hmiss⟩ := h.key
 refine hz_ ?_
 (refine WL.alloc tab_ok rfl rfl ?_; intro b)
 refine WL.fresh (b := b) pk_ (fun hfr => ?_)
 have hop := h.open_ htp hfr
 refine hz_ ?_
 refine WL.mapNew tab_ok rfl rfl rfl rfl rfl pk_ hkeys hmiss ?_
 refine hz_ ?_
 refine WL.call rfl Tryz.call65 rfl rfl (by exact (h.ent.val 3)) ?_
 rw [hv3]
 rintro v _ _ - ⟨rfl, rfl, hv⟩
 obtain rfl : v = .iface 9 (.string d.name) := hv
 refine hz_ ?_
 refine WL.make2 tab_ok rfl rfl rfl rfl rfl rfl rfl rfl (by omega) (by omega) (by omega) (by omega) rfl ?_
 intro bm
 refine hz_ ?_
 refine WL.call rfl Tryz.call63 rfl rfl (by exact (h.next hK hKf (Env.le.rfl' _) h.ux pk_ pk_ h.rd (Nat.zero_le _))) ?_
 rintro v54 Γ2 _ hle2 ⟨o2, rfl, hnx⟩
 refine hz_ ?_
 refine WC.loopE (fun m R' Γ' H' => ∃ k bs cap ptrs v26 o' Hd, R' = [(3, .int .u32 ((nodO l ds (rtI ds j) : Nat) : Int)), (11, .pointer (some ⟨b11, 0, none⟩)), (16, .pointer (some ⟨b16, 0, none⟩)), (17, .pointer (some ⟨b17, 0, none⟩)), (18, .int .i64 l.size), (20, pkey 233 b), (22, .func (.func 63) #[] #[.pointer (some ⟨b16, 0, none⟩), .pointer (some ⟨b8, 0, none⟩), .pointer (some ⟨b17, 0, none⟩), .pointer (some ⟨b7, 0, none⟩), .pointer (some ⟨b21, 0, none⟩)]), (53, .pointer (some ⟨b, 0, none⟩)), (54, v26)] ∧ m = d.cons.length - k ∧ k ≤ d.cons.length ∧ Γ2.le Γ' ∧ Ow 1 (.slice (some ⟨bs, 0, none⟩) k cap) k ptrs Hd ∧ 8 ≤ cap ∧ cap ≤ 100 ∧ LisC (ConO Γ') (d.cons.take k) ptrs ∧
   KidN Γ' pd pu l ds j k v26 o' ((d.cons[k]?).map conN) ∧
   H' = Hd ++ ((b, cel [.int .i64 0, noStr, .string d.name, .slice (some ⟨bs, 0, none⟩) k cap] 236) :: (b17, cel [.nilIface] 77) :: (pr, o') :: RSH pu ou pm (es ++ [MapEntry.mk (.int .u32 ((nodO l ds (rtI ds j) : Nat) : Int)) (pkey 233 b) c]) (c + 1) pf sl td Hv F))
  ⟨0, bm, 8, [], v54, o2, [(bm, cel (reps 8 [.pointer none]) 237)], rfl, rfl, Nat.zero_le _, Env.le.rfl' _, Ow.room (l := []) (Nat.zero_le _) rfl (by simp [reps_length]), Nat.le_refl _, by omega, rfl, hnx, rfl⟩ sr_ sn_ ?_
 rintro m R' Γ3 H' ⟨k, bs, cap, ptrs, v26', o3, Hd, rfl, rfl, hkl, hle3, how3, hc8, hc100, hL3, hnx3, rfl⟩
 obtain ⟨_, sp, T3, fz3, ebs, hkc, hpl, hsl, hfz, rfl⟩ := ow_open how3 (by omega)
 injection ebs with ebs; injection ebs with ebs _ _; subst ebs
 have hle13 := hle2.trans hle3
 rcases Nat.lt_or_ge k d.cons.length with hlt | hge
 case inr =>
  have ek : k = d.cons.length := by omega
  subst ek
  rw [List.getElem?_eq_none (Nat.le_refl _)] at hnx3
  obtain rfl : v26' = .pointer none := hnx3
  rw [List.take_length] at hL3
  refine hz_ ?_
  refine WE.keep how3 tk_ (fun Γ4 hle4 him => ?_)
  have hA := Im.arr him (hL3.imp fun _ _ h => h.mono hle4)
  exact WE.mid ⟨o3, ou, _, c + 1, sl, td, Hv, _, b, [noStr, .string d.name, .slice (some ⟨bs, 0, none⟩) d.cons.length cap], rfl, hle13.trans hle4, rfl, h.ux.mono (hle13.trans hle4), hop.ts.mono (hle13.trans hle4), h.ow, hop.ext, BM.put_same, by unfold FinC; rw [if_neg (by omega), if_neg (by omega), if_neg (by omega), if_neg (by omega), if_neg (by omega), if_pos hk]; exact ⟨_, rfl, hA⟩⟩ sr_ sn_
 obtain ⟨x, hx⟩ : ∃ x, d.cons[k]? = some x := ⟨_, List.getElem?_eq_getElem hlt⟩
 rw [hx] at hnx3
 obtain ⟨pk, ofk, rfl, hE3, hR3⟩ := hnx3
 have hxk := hok.con x (List.mem_of_getElem? hx)
 have hC := conN_says (v := l.vers) hxk
 have t1 := hE3.tag
 have hxl : d.cons.take (k + 1) = d.cons.take k ++ [x] := by rw [List.take_add_one, hx]; rfl
 have hu3 := h.ux.mono hle13
 refine hz_ ?_
 (refine WL.alloc tab_ok rfl rfl ?_; intro bf)
 refine hz_ ?_
 refine WL.call rfl Tryz.call65 rfl rfl (by exact (hE3.val 3)) ?_
 rw [hC.nm]
 rintro v _ _ - ⟨rfl, rfl, hv⟩
 obtain rfl : v = .iface 9 (.string x.name) := hv
 refine hz_ ?_
 refine WL.call rfl Tryz.call65 rfl rfl (by exact (hE3.val 28)) ?_
 rw [hC.val]
 rintro v _ _ - ⟨rfl, rfl, hv⟩
 obtain rfl : v = .iface 2 (.int .i64 x.val) := hv
 refine hz_ ?_
 have hone : ∀ y ∈ ptrs, y.oneCell' = true := LisC.one2 (fun _ _ ⟨_, e, _⟩ y hy => by rw [e, List.mem_singleton] at hy; rw [hy]; rfl) hL3
 refine WC.cutM (fun R' Γ' H' => ∃ bs cap sp T fz, R' = [(3, .int .u32 ((nodO l ds (rtI ds j) : Nat) : Int)), (11, .pointer (some ⟨b11, 0, none⟩)), (16, .pointer (some ⟨b16, 0, none⟩)), (17, .pointer (some ⟨b17, 0, none⟩)), (18, .int .i64 l.size), (20, pkey 233 b), (22, .func (.func 63) #[] #[.pointer (some ⟨b16, 0, none⟩), .pointer (some ⟨b8, 0, none⟩), .pointer (some ⟨b17, 0, none⟩), .pointer (some ⟨b7, 0, none⟩), .pointer (some ⟨b21, 0, none⟩)]), (53, .pointer (some ⟨b, 0, none⟩)), (54, .pointer (some ⟨pk, 0, none⟩)), (55, .pointer (some ⟨bf, 0, none⟩)), (56, .int .i64 ((k : Nat) : Int))] ∧ Γ3 = Γ' ∧ k < cap ∧ 8 ≤ cap ∧ cap ≤ 100 ∧ sp.length + k = cap ∧ thawed fz (ptrs ++ sp).length ∧
   H' = (bf, cel [.string x.name, .int .i64 x.val] 239) :: (bs, celF (ptrs ++ sp) T fz) :: (b, cel [.int .i64 0, noStr, .string d.name, .slice (some ⟨bs, 0, none⟩) k cap] 236) :: (b17, cel [.nilIface] 77) :: (pr, o3) :: RSH pu ou pm (es ++ [MapEntry.mk (.int .u32 ((nodO l ds (rtI ds j) : Nat) : Int)) (pkey 233 b) c]) (c + 1) pf sl td Hv F) ?_ ?_
 ·by_cases hg : cap ≤ k
  ·refine WC.condT rfl (decide_eq_true (by omega)) ?_
   refine hz_ ?_
   rw [show IntKind.i64.wrap (((k : Nat) : Int) * 2) = ((k * 2 : Nat) : Int) by rw [w_i64 (by omega) (by omega)]; omega]
   refine WL.make2 tab_ok rfl rfl rfl rfl rfl rfl rfl rfl (by omega) (by omega) (by omega) (by omega) rfl ?_
   intro bn
   rw [Int.toNat_natCast, Int.toNat_natCast, reps_two]
   refine hz_ ?_
   refine WL.copy0 tab_ok rfl rfl rfl rfl rfl rfl (Ow.room (l := reps k [.pointer none]) (sp := reps k [.pointer none]) (by omega) (by rw [reps_length]; rfl) (by rw [reps_length]; simp only [List.length_cons, List.length_nil]; omega)) how3 (by omega) t1_ tk_ hone (fun Hd5 how5 => ?_)
   obtain ⟨bq, sp5, T5, fz5, ebq, -, -, hsl5, hfz5, rfl⟩ := ow_open how5 (by omega)
   injection ebq with ebq; injection ebq with ebq _ _; subst ebq
   refine hz_ ?_
   exact WE.mid ⟨bn, k * 2, sp5, T5, fz5, rfl, rfl, by omega, by omega, by omega, by omega, hfz5, rfl⟩ sr_ sn_
  ·refine WC.condF rfl (decide_eq_false (by omega)) ?_
   refine hz_ ?_
   exact WE.mid ⟨bs, cap, sp, T3, fz3, rfl, rfl, by omega, hc8, hc100, by omega, hfz, rfl⟩ sr_ sn_
 rintro R' Γ4 H' ⟨bs4, cap4, sp4, T4, fz4, rfl, rfl, hk4, hc84, hc104, hsl4, hfz4, rfl⟩
 cases sp4 with
 | nil => simp at hsl4; omega
 | cons s0 sp5 =>
  refine hz_ ?_
  rw [show IntKind.i64.wrap (((k : Nat) : Int) + 1) = ((k + 1 : Nat) : Int) by rw [w_i64 (by omega) (by omega)]; omega]
  refine WL.slLH tab_ok rfl rfl rfl rfl rfl (by omega) (by omega) (by omega) rfl ?_
  rw [Int.toNat_natCast, show Int.toNat 0 = 0 from rfl, saddr0, Nat.sub_zero, Nat.sub_zero]
  refine hz_ ?_
  refine WL.stN (l' := ptrs ++ ([.pointer (some ⟨bf, 0, none⟩)] ++ sp5)) tab_ok rfl rfl rfl pk_ hfz4 (by simp [vcells]; omega) (by rw [show 0 + Int.toNat ((k : Nat) : Int) * 1 = ptrs.length by omega]; exact setAll_mid (old := [s0]) rfl) rfl rfl ?_
  refine hz_ ?_
  refine WL.call rfl Tryz.call63 rfl rfl (by exact (h.next hK hKf hle13 hu3 pk_ pk_ hR3 hlt)) ?_
  rintro v6 Γ6 _ hle6 ⟨o6, rfl, hnx6⟩
  refine hz_ ?_
  refine WE.freeze (b := bf) pk_ (fun hleb => ?_)
  rw [← List.append_assoc]
  have hbf : ConO (Γ6.add bf (cel [.string x.name, .int .i64 x.val] 239)) x [.pointer (some ⟨bf, 0, none⟩)] := ⟨bf, rfl, by simp [Env.add]⟩
  have hsp5 : sp5.length + 1 + k = cap4 := hsl4
  have hth : thawed fz4 ((ptrs ++ [Value.pointer (some ⟨bf, 0, none⟩)]) ++ sp5).length := by
   simp only [List.length_append, List.length_cons, List.length_nil] at hfz4 ⊢
   rw [show ptrs.length + (0 + 1) + sp5.length = ptrs.length + (sp5.length + 1) by omega]; exact hfz4
  have hrow : Ow 1 (.slice (some ⟨bs4, 0, none⟩) (k + 1) cap4) (k + 1) (ptrs ++ [Value.pointer (some ⟨bf, 0, none⟩)]) [(bs4, celF ((ptrs ++ [Value.pointer (some ⟨bf, 0, none⟩)]) ++ sp5) T4 fz4)] :=
   Ow.row (by omega) (by simp only [List.length_append, List.length_cons, List.length_nil]; omega) (by simp only [List.length_append, List.length_cons, List.length_nil]; omega) hth
  exact WE.again ⟨k + 1, bs4, cap4, ptrs ++ [Value.pointer (some ⟨bf, 0, none⟩)], v6, o6, _, rfl, rfl, hlt, hle3.trans (hle6.trans hleb), hrow, hc84, hc104,
   by rw [hxl]; exact LisC.append (hL3.imp fun _ _ h => h.mono (hle6.trans hleb)) (LisC.one hbf), hnx6.mono hleb, rfl⟩ (by omega) sr_ sn_
end
section
variable {Γ : Env} {pd pu : Nat} {l : Lay} {ds : List Df} {pm pf pr n : Nat} {nm : Value} {pe b6 b7 b8 b10 b11 b16 b17 b21 c : Nat} {O : List Nat} {B : BM} {es : List MapEntry} {td : TDs} {sl : Value} {Hv F : List Blk} {ou o : Obj} {j : Nat} {d : Df}
theorem sw15 (h : SWH Γ pd pu pm pf pr l ds n nm pe b6 b7 b8 b10 b11 b16 b21 O B es td sl Hv F ou o j d) (hk : d.kind = 15) : SwG l ds d pu pm pf pr pe b6 b7 b8 b10 b11 b16 b17 b21 c O B es td sl Hv F ou o Γ j := by
 intro Q D hNP
 have hok := h.ok
 have htp : tyP d.kind = 243 := by rw [hk]; rfl
 have hto : tyO d.kind = 246 := by rw [hk]; rfl
 obtain ⟨htag, hv73, hv11⟩ := hd15 (v := l.vers) h.tx.ok hok.d0.of1 hk
 have hbx := h.bx
 have hK : defK l (PLI l ds) d = d.pars.map (parN l (PLI l ds)) := by unfold defK; rw [if_neg (by omega), if_neg (by omega), if_neg (by omega), if_pos hk]
 have hP : ∀ x ∈ d.pars, ParK l.vers l ds x (parN l (PLI l ds) x) := fun x hx => parN_says h.tx.ok (hok.par x hx)
 have hKf : ∀ x ∈ d.pars, 0 < (parN l (PLI l ds) x).tag ∧ (parN l (PLI l ds) x).ch = false ∧ (parN l (PLI l ds) x).sib = false := fun x hx => ⟨by rw [(hP x hx).tag]; split <;> decide, (hP x hx).ch, (hP x hx).sib⟩
 have hcl := hok.d0.parl
 unfold SwR
 rw [htag, htp, hto]
 have g10 := h.bx.c10
 have g16 := h.bx.c16
 obtain ⟨hkeys, hmiss⟩ := h.key
 refine hz_ ?_
 (refine WL.alloc tab_ok rfl rfl ?_; intro b)
 refine WL.fresh (b := b) pk_ (fun hfr => ?_)
 have hop := h.open_ htp hfr
 refine hz_ ?_
 refine WL.mapNew tab_ok rfl rfl rfl rfl rfl pk_ hkeys hmiss ?_
 refine hz_ ?_
 refine WL.re' (H' := RSH pu ou pm (es ++ [MapEntry.mk (.int .u32 ((nodO l ds (rtI ds j) : Nat) : Int)) (pkey 243 b) c]) (c + 1) pf sl td Hv ((b17, cel [.nilIface] 77) :: (b, cel [.int .i64 0, noStr, .nilIface, nilS] 246) :: (pr, o) :: F)) sn_ ?_
 refine WL.call rfl Tryz.call64 rfl rfl (by exact (typeOf_ok h.ih (h.tx) (h.ux) (hop.ts) (hop.op (G := [(pr, o)])) h.ow (hop.ms) (h.ent) hv73 hok.d0.of0 hok.d0.of1 (Pick.there Pick.here) (h.rd) (.inl hbx.c6) (.inl hbx.c7) (.inl hbx.c8) (.inl hbx.c10) (.inl hbx.c11))) ?_
 rintro _ Γ1 _ hle ⟨ou1, es1, c1, sl1, td1, Hv1, B1, hkv, hext, hu1, hS1, how1, rfl⟩
 obtain ⟨tv, bv, rfl⟩ := hkv.ex
 refine hz_ ?_
 refine WL.make2 tab_ok rfl rfl rfl rfl rfl rfl rfl rfl (by omega) (by omega) (by omega) (by omega) rfl ?_
 intro bm
 refine hz_ ?_
 refine WL.call rfl Tryz.call63 rfl rfl (by exact (h.next hK hKf hle hu1 pk_ pk_ (h.rd.mono hle) (Nat.zero_le _))) ?_
 rintro v60 Γ2 _ hle2 ⟨o2, rfl, hnx⟩
 refine hz_ ?_
 refine WC.loopE (fun m R' Γ' H' => ∃ k vs vals v26 o' Hd ou' es' c' sl' td' Hv' B', R' = [(3, .int .u32 ((nodO l ds (rtI ds j) : Nat) : Int)), (11, .pointer (some ⟨b11, 0, none⟩)), (16, .pointer (some ⟨b16, 0, none⟩)), (17, .pointer (some ⟨b17, 0, none⟩)), (18, .int .i64 l.size), (20, pkey 243 b), (22, .func (.func 63) #[] #[.pointer (some ⟨b16, 0, none⟩), .pointer (some ⟨b8, 0, none⟩), .pointer (some ⟨b17, 0, none⟩), .pointer (some ⟨b7, 0, none⟩), .pointer (some ⟨b21, 0, none⟩)]), (23, .func (.func 64) #[] #[.pointer (some ⟨b6, 0, none⟩), .pointer (some ⟨b7, 0, none⟩), .pointer (some ⟨b8, 0, none⟩), .pointer (some ⟨b10, 0, none⟩), .pointer (some ⟨b11, 0, none⟩), .pointer (some ⟨b17, 0, none⟩)]), (59, .pointer (some ⟨b, 0, none⟩)), (60, v26)] ∧ m = d.pars.length - k ∧ k ≤ d.pars.length ∧ Γ2.le Γ' ∧ Ow 1 vs k vals Hd ∧ LisC (ParO Γ' B' ds) (d.pars.take k) vals ∧
   KidN Γ' pd pu l ds j k v26 o' ((d.pars[k]?).map (parN l (PLI l ds))) ∧ UX Γ' l ds ou' ∧ TS Γ' l ds (j :: O) B' es' td' ∧ Ow 1 sl' td'.length (tdP td') Hv' ∧ BM.ext (j :: O) B1 B' ∧
   H' = RSH pu ou' pm es' c' pf sl' td' Hv' ((b17, cel [.nilIface] 77) :: (b, cel [.int .i64 0, noStr, pkey tv bv, vs] 246) :: (pr, o') :: (Hd ++ F)))
  ⟨0, .slice (some ⟨bm, 0, none⟩) 0 8, [], v60, o2, [(bm, cel (reps 8 [.nilIface]) 86)], ou1, es1, c1, sl1, td1, Hv1, B1, rfl, rfl, Nat.zero_le _, Env.le.rfl' _, Ow.room (l := []) (Nat.zero_le _) rfl (by simp [reps_length]), rfl, hnx, hu1.mono hle2, hS1.mono hle2, how1, BM.ext.rfl' _ _, rfl⟩ sr_ sn_ ?_
 rintro m R' Γ3 H' ⟨k, vs, vals, v26', o3, Hd, ou3, es3, c3, sl3, td3, Hv3, B3, rfl, rfl, hkl, hle3, how3, hL3, hnx3, hu3, hS3, hsl3, hext3, rfl⟩
 have hle13 := hle.trans (hle2.trans hle3)
 rcases Nat.lt_or_ge k d.pars.length with hlt | hge
 case inr =>
  have ek : k = d.pars.length := by omega
  subst ek
  rw [List.getElem?_eq_none (Nat.le_refl _)] at hnx3
  obtain rfl : v26' = .pointer none := hnx3
  rw [List.take_length] at hL3
  obtain ⟨a9, c9, rfl⟩ := Ow.shape how3
  refine hz_ ?_
  refine WE.keep how3 tk_ (fun Γ4 hle4 him => ?_)
  have hA := Im.arr him (hL3.imp fun _ _ h => h.mono hle4 (BM.le.rfl' _))
  exact WE.mid ⟨o3, ou3, es3, c3, sl3, td3, Hv3, B3, b, [noStr, pkey tv bv, .slice a9 d.pars.length c9], rfl, hle13.trans hle4, rfl, hu3.mono hle4, hS3.mono hle4, hsl3, (hop.ext.trans (hext.sub fun x hx => List.mem_cons_of_mem _ hx)).trans (hext3.sub fun x hx => List.mem_cons_of_mem _ hx), hext3.1 _ _ _ (hext.1 _ _ _ BM.put_same),
   by unfold FinC; rw [if_neg (by omega), if_neg (by omega), if_neg (by omega), if_neg (by omega), if_neg (by omega), if_neg (by omega), if_pos hk]; exact ⟨_, _, rfl, hkv.mono (hle2.trans (hle3.trans hle4)) hext3.1, hA⟩⟩ sr_ sn_
 obtain ⟨x, hx⟩ : ∃ x, d.pars[k]? = some x := ⟨_, List.getElem?_eq_getElem hlt⟩
 rw [hx] at hnx3
 obtain ⟨pk, ofk, rfl, hE3, hR3⟩ := hnx3
 have hxm := List.mem_of_getElem? hx
 have hxk := hok.par x hxm
 have hC := hP x hxm
 have t1 := hE3.tag
 have hxl : d.pars.take (k + 1) = d.pars.take k ++ [x] := by rw [List.take_add_one, hx]; rfl
 obtain ⟨a9, c9, rfl⟩ := Ow.shape how3
 have hbx3 := hbx.mono hle13
 by_cases hx3 : x = -3
 ·have ht3 := hC.tag
  rw [if_pos hx3] at ht3
  rw [ht3] at t1
  refine hz_ ?_
  (refine WL.box rfl spi_ rfl ?_; intro bd)
  refine hz_ ?_
  (refine WL.lit tab_ok rfl rfl rfl rfl rfl rfl rfl spi_ rfl ?_; intro bq)
  refine hz_ ?_
  refine WL.append tab_ok rfl rfl rfl rfl rfl rfl rfl rfl how3 tk_ ((Ow.lit (s := 1) (b := bq) (k := 1) (l := [pkey 135 bd]) (T := 86) rfl).src tab_ok rfl t1_ (by simp [Value.oneCell'])) (by omega) (by omega) (fun v5 Hs5 how5 => ?_)
  obtain ⟨a5, c5, rfl⟩ := Ow.shape how5
  refine hz_ ?_
  refine WL.call rfl Tryz.call63 rfl rfl (by exact (h.next hK hKf hle13 hu3 pk_ pk_ hR3 hlt)) ?_
  rintro v6 Γ6 _ hle6 ⟨o6, rfl, hnx6⟩
  refine hz_ ?_
  exact WE.again ⟨k + 1, .slice a5 (k + 1) c5, vals ++ [pkey 135 bd], v6, o6, Hs5, ou3, es3, c3, sl3, td3, Hv3, B3, rfl, rfl, hlt, hle3.trans hle6, how5, by rw [hxl]; exact LisC.append (hL3.imp fun _ _ h => h.mono hle6 (BM.le.rfl' _)) (LisC.one ⟨_, rfl, by unfold KV; rw [if_pos hx3]; exact ⟨bd, rfl⟩⟩), hnx6, hu3.mono hle6, hS3.mono hle6, hsl3, hext3, rfl⟩ (by omega) sr_ sn_
 ·have ht3 := hC.tag
  rw [if_neg hx3] at ht3
  rw [ht3] at t1
  refine hz_ ?_
  refine WL.call rfl Tryz.call64 rfl rfl (by exact (typeOf_ok h.ih (h.tx.mono hle13) hu3 hS3 ((hop.op (G := (pr, o3) :: Hd)).mono hle13 (hext.1.trans hext3.1)) hsl3 (Nat.le_trans (missL_le (hext.1.trans hext3.1) _) hop.ms) hE3 (hC.of hx3) (by omega) (by omega) (Pick.there Pick.here) hR3 (.inl hbx3.c6) (.inl hbx3.c7) (.inl hbx3.c8) (.inl hbx3.c10) (.inl hbx3.c11))) ?_
  rintro _ Γ4 _ hle4 ⟨ou4, es4, c4, sl4, td4, Hv4, B4, hkv4, hext4, hu4, hS4, hsl4, rfl⟩
  obtain ⟨tv4, bv4, rfl⟩ := hkv4.ex
  refine hz_ ?_
  (refine WL.lit tab_ok rfl rfl rfl rfl rfl rfl rfl spi_ rfl ?_; intro bq)
  refine hz_ ?_
  refine WL.append tab_ok rfl rfl rfl rfl rfl rfl rfl rfl how3 tk_ ((Ow.lit (s := 1) (b := bq) (k := 1) (l := [pkey tv4 bv4]) (T := 86) rfl).src tab_ok rfl t1_ (by simp [Value.oneCell'])) (by omega) (by omega) (fun v5 Hs5 how5 => ?_)
  obtain ⟨a5, c5, rfl⟩ := Ow.shape how5
  refine hz_ ?_
  refine WL.call rfl Tryz.call63 rfl rfl (by exact (h.next hK hKf (hle13.trans hle4) hu4 pk_ pk_ (hR3.mono hle4) hlt)) ?_
  rintro v6 Γ6 _ hle6 ⟨o6, rfl, hnx6⟩
  refine hz_ ?_
  have hle46 := hle4.trans hle6
  exact WE.again ⟨k + 1, .slice a5 (k + 1) c5, vals ++ [pkey tv4 bv4], v6, o6, Hs5, ou4, es4, c4, sl4, td4, Hv4, B4, rfl, rfl, hlt, hle3.trans hle46, how5, by rw [hxl]; exact LisC.append (hL3.imp fun _ _ h => h.mono hle46 hext4.1) (LisC.one ⟨_, rfl, hkv4.mono hle6 (BM.le.rfl' _)⟩), hnx6, hu4.mono hle6, hS4.mono hle6, hsl4, hext3.trans hext4, rfl⟩ (by omega) sr_ sn_
end
end Go.Proofs.YtbgkbgoonjkghaaGreatDoor
