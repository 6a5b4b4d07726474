/- FnRangesNone: the walk. -/
import Derived.Test.YtdplhbmoidepgaaGreatDoorQ3
namespace Go.Proofs.YtdplhbmoidepgaaGreatDoor
open Go Go.Sl
set_option maxRecDepth 10000
set_option maxHeartbeats 40000000

theorem SecR.mono {Γ Γ' : Env} (hle : Γ.le Γ') {v : Value} {ab info ln rg sr lin : List UInt8} {rl : Option (List UInt8)} (h : SecR Γ v ab info ln rg sr lin rl) : SecR Γ' v ab info ln rg sr lin rl := by
  obtain ⟨vA, vI, vL, vR, vS, vD, rfl, h1, h2, h3, h4, h5, h6⟩ := h.ex
  exact ⟨vA, vI, vL, vR, vS, vD, rfl, h1.mono hle, h2.mono hle, h3.mono hle, h4.mono hle, h5.mono hle, h6.mono hle⟩
theorem nodsS_at {l : Lay} {x : Spn} {k n : Nat} {ns : List Nod} (h : 0 < n) : (nodsS l x k ns)[n]? = ns[n]? := by
  obtain ⟨m, rfl⟩ : ∃ m, n = m + 1 := ⟨n - 1, by omega⟩
  cases ns with
  | nil => rfl
  | cons y r => rfl
theorem fnRangesNone_ok {Γ : Env} {H : List Blk} {l : Lay} {sp : List Spn} {us : List Uni} {v1 v2 : Value} {k n : Int} (hG : Glob Γ) (h1 : Arr Γ (SpnC Γ) v1 sp) (h2 : Arr Γ (UniC Γ) v2 us) :
   Spc Tryz.prog 5 #[layV l, v1, v2, .int .i64 k, .int .i64 n] Γ H (fun v Γ' H' => v = .bool true) := by
  have g1 := h1
  have g2 := h2
  obtain ⟨a1, cap1, cells1, rfl, hcap1, hA1, hL1⟩ := h1
  obtain ⟨a2, cap2, cells2, rfl, hcap2, hA2, hL2⟩ := h2
  refine Spc.body5 Tryz.func5 rfl Tryz.ntmps5 rfl ?_
  refine WC.seq ?_
  refine WC.region ?_
  (refine WL.box rfl spi_ rfl ?_; intro b3)
  refine gz_ ?_
  refine WL.call rfl Tryz.call7 rfl rfl (by exact (zzFits7_ok g1)) ?_
  rintro _ _ _ - ⟨rfl, rfl, f7, rfl, hf7⟩
  refine gz_ ?_
  cases f7 with
  | false =>
    refine gz_ ?_
    exact end_1 rfl rfl (Env.le.rfl' _) rfl
  | true =>
  refine gz_ ?_
  refine WL.call rfl Tryz.call8 rfl rfl (by exact (zzFits9_ok g2)) ?_
  rintro _ _ _ - ⟨rfl, rfl, f9, rfl, hf9⟩
  refine gz_ ?_
  cases f9 with
  | false =>
    refine gz_ ?_
    exact end_1 rfl rfl (Env.le.rfl' _) rfl
  | true =>
  obtain ⟨hf7l, hf7s⟩ := hf7 rfl
  obtain ⟨hf9l, hf9u⟩ := hf9 rfl
  refine gz_ ?_
  refine WL.call rfl Tryz.call9 rfl rfl (by exact (areSpanned_ok (l := l) g1 g2 hf7l hf7s hf9l hf9u)) ?_
  rintro _ _ _ - ⟨rfl, rfl, fs, rfl, hfs⟩
  refine gz_ ?_
  cases fs with
  | false =>
    refine gz_ ?_
    exact end_1 rfl rfl (Env.le.rfl' _) rfl
  | true =>
  have hok := hfs rfl
  have hnum := numsU hA2 hL2
  refine gz_ ?_
  cases e1 : decide (k < 0) with
  | true =>
    refine gz_ ?_
    exact end_1 rfl rfl (Env.le.rfl' _) rfl
  | false =>
  refine gz_ ?_
  cases e2 : decide ((us.length : Int) ≤ k) with
  | true =>
    refine gz_ ?_
    exact end_1 rfl rfl (Env.le.rfl' _) rfl
  | false =>
  have k1 := of_decide_eq_false e1
  have k2 := of_decide_eq_false e2
  obtain ⟨kn, rfl⟩ : ∃ kn : Nat, k = (kn : Int) := ⟨k.toNat, by omega⟩
  obtain ⟨u0, hu0⟩ : ∃ u, us[kn]? = some u := ⟨_, List.getElem?_eq_getElem (by omega)⟩
  have hsl := hok.sl
  obtain ⟨xs, hxs⟩ : ∃ u, sp[kn]? = some u := ⟨_, List.getElem?_eq_getElem (by omega)⟩
  have hR := mkR hok hnum
  have hsx := (hok.each kn xs u0 hxs hu0).1
  have hou := (hok.each kn xs u0 hxs hu0).2.2.2.2
  obtain ⟨bu, oU, cu, rfl, hPu, hcu⟩ := elemA hA2 hL2 (fun _ _ h => h.len) (w := 4) (by decide) hu0
  obtain ⟨vn, rfl, an, capn, cellsn, rfl, hcapn, hAn, hLn⟩ := hPu
  have hcu3 : Γ.cell bu (oU + Int.toNat ((kn : Nat) : Int) * 4 + 3) = some (.slice an u0.nods.length capn) := cellsAt_get hcu 3 _ rfl
  refine gz_ ?_
  cases e3 : decide (n < 1) with
  | true =>
    refine gz_ ?_
    exact end_1 rfl rfl (Env.le.rfl' _) rfl
  | false =>
  refine gz_ ?_
  cases e4 : decide ((u0.nods.length : Int) ≤ n) with
  | true =>
    refine gz_ ?_
    exact end_1 rfl rfl (Env.le.rfl' _) rfl
  | false =>
  have k3 := of_decide_eq_false e3
  have k4 := of_decide_eq_false e4
  obtain ⟨nn, rfl⟩ : ∃ kn : Nat, n = (kn : Int) := ⟨n.toNat, by omega⟩
  obtain ⟨x, hx⟩ : ∃ u, u0.nods[nn]? = some u := ⟨_, List.getElem?_eq_getElem (by omega)⟩
  obtain ⟨bn, oN, cn, rfl, hPn, hcn⟩ := elemA hAn hLn (fun _ _ h => h.len) (w := 4) (by decide) hx
  obtain ⟨va, rfl, aa, capa, cellsa, rfl, hcapa, hAa, hLa⟩ := hPn
  have hcn0 : Γ.cell bn (oN + Int.toNat ((nn : Nat) : Int) * 4) = some (.int .i64 x.tag) := cellsAt_get hcn 0 _ rfl
  have hcn3 : Γ.cell bn (oN + Int.toNat ((nn : Nat) : Int) * 4 + 3) = some (.slice aa x.atts.length capa) := cellsAt_get hcn 3 _ rfl
  refine gz_ ?_
  cases e5 : (x.tag == 0) with
  | true =>
    refine gz_ ?_
    exact end_1 rfl rfl (Env.le.rfl' _) rfl
  | false =>
  have htg : x.tag ≠ 0 := ne_of_beq_false e5
  have hna := (hou.nod x (List.mem_of_getElem? hx)).na
  refine gz_ ?_
  refine WC.loopE (fun m R' Γ' H' => ∃ i, R' = [(1, .slice a1 sp.length cap1), (2, .slice (some ⟨bu, oU, none⟩) us.length cap2), (3, .int .i64 ((kn : Nat) : Int)), (4, .int .i64 ((nn : Nat) : Int)), (5, .pointer (some ⟨b3, 0, none⟩)), (76, .slice aa x.atts.length capa), (77, .int .i64 (x.atts.length : Int)), (78, .int .i64 ((i : Nat) : Int))] ∧ Γ = Γ' ∧
      H' = (b3, layC l) :: H ∧ m = x.atts.length - i ∧ i ≤ x.atts.length ∧ ∀ (j : Nat) (y : Att), j < i → x.atts[j]? = some y → y.attr ≠ 17 ∧ y.attr ≠ 18 ∧ y.attr ≠ 85)
    ⟨0, rfl, rfl, rfl, rfl, Nat.zero_le _, fun _ _ h => by omega⟩ sr_ (fun _ h => h) ?_
  rintro m R' Γ' H' ⟨i, rfl, rfl, rfl, rfl, hi, hno⟩
  rcases Nat.lt_or_ge i x.atts.length with hlt | hge
  case inl =>
    obtain ⟨⟨z1, z2, z3, z4, z5, z6⟩, hy⟩ : ∃ y, x.atts[i]? = some y := ⟨_, List.getElem?_eq_getElem hlt⟩
    obtain ⟨ba, oA, ca, rfl, hPa, hca⟩ := elemA hAa hLa (fun _ _ h => h.len) (w := 6) (by decide) hy
    obtain ⟨vb, rfl, ⟨ab, cb, rfl, -, -⟩, -⟩ := hPa
    simp only at hca
    have hwi : IntKind.i64.wrap ((i : Int) + 1) = (i : Int) + 1 := w_i64 (by omega) (by omega)
    refine gz_ ?_
    refine WC.condT rfl (by first | rfl | exact decide_eq_true (by omega) | (simp; (first | done | fail)) | (simp; omega)) ?_
    refine gz_ ?_
    (refine WL.alloc tab_ok rfl rfl ?_; intro b12)
    refine gz_ ?_
    cases q1 : (z1 == 17) with
    | true =>
      refine gz_ ?_
      exact end_1 rfl rfl (Env.le.rfl' _) rfl
    | false =>
    refine gz_ ?_
    cases q2 : (z1 == 18) with
    | true =>
      refine gz_ ?_
      exact end_1 rfl rfl (Env.le.rfl' _) rfl
    | false =>
    refine gz_ ?_
    cases q3 : (z1 == 82) with
    | true =>
      refine gz_ ?_
      exact end_1 rfl rfl (Env.le.rfl' _) rfl
    | false =>
    refine gz_ ?_
    cases q4 : (z1 == 85) with
    | true =>
      refine gz_ ?_
      exact end_1 rfl rfl (Env.le.rfl' _) rfl
    | false =>
    refine gz_ ?_
    refine WE.again ⟨i + 1, rfl, rfl, rfl, rfl, hlt, fun j y hj hy' => ?_⟩ (by omega) ⟨rfl, rfl, rfl, rfl, rfl, rfl, rfl, congrArg (fun z => some (Value.int .i64 z)) hwi, trivial⟩ sm_
    rcases Nat.lt_or_ge j i with hj' | hj'
    · exact hno j y hj' hy'
    · have : j = i := by omega
      subst this
      rw [hy] at hy'; injection hy' with hy'; subst hy'
      exact ⟨ne_of_beq_false q1, ne_of_beq_false q2, ne_of_beq_false q4⟩
  case inr =>
  have ei : i = x.atts.length := by omega
  subst ei
  have hsay : ∀ a ∈ x.atts, a.attr ≠ 17 ∧ a.attr ≠ 18 ∧ a.attr ≠ 85 := fun a ha => by
    obtain ⟨j, hj⟩ := List.getElem?_of_mem ha
    exact hno j a (List.getElem?_eq_some_iff.1 hj).1 hj
  obtain ⟨n0, hn0, htop⟩ := top_nod (l := l) (x := xs) (k := bgn l + (lstsT l (sp.take kn)).length) hou.n0
  have hx' : (uniS l xs (bgn l + (lstsT l (sp.take kn)).length) u0).nods[nn]? = some x := by
    show (nodsS l xs _ u0.nods)[nn]? = some x
    rw [nodsS_at (by omega)]; exact hx
  refine gz_ ?_
  refine WC.condF rfl (decide_eq_false (by omega)) ?_
  refine gz_ ?_
  refine WC.cutM (fun R' Γ' H' => ∃ b9 cs vf, Γ.le Γ' ∧ R' = [(1, .slice a1 sp.length cap1), (3, .int .i64 ((kn : Nat) : Int)), (4, .int .i64 ((nn : Nat) : Int)), (13, .pointer (some ⟨b9, 0, none⟩)), (14, vf)] ∧ H' = (b9, cel cs 32) :: (b3, layC l) :: H ∧ SpR Γ' l sp us (.agg cs.toArray) vf) ?_ ?_
  · refine WC.draw 11 (.take 0 (.take 1 (.take 2 (.take 3 (.two 4 9 (.two 5 9 (.take 6 (.take 7 (.take 8 (.one 9 (.one 10 (.one 11 .done)))))) (.one 5 (.take 6 (.take 7 (.take 8 (.one 10 (.one 11 .done))))))) (.one 4 (.one 5 (.take 6 (.take 7 (.take 8 (.one 10 (.one 11 .done)))))))))))) ((b3, _) :: []) mixed (by (repeat (first | exact trivial | refine ⟨⟨_, pk_⟩, ?_⟩ | exact subH_self _ | apply subH_cons)); (first | done | fail)) (by decide +kernel) ?_
    refine dz_ ?_
    refine WD.two rfl rfl ?_ ?_
    · refine WL.call rfl Tryz.call11 rfl rfl (by exact (none_ok g2 hf9l)) ?_
      rintro v3 Γ1 _ - ⟨hle1, him, rfl⟩
      refine dz_ ?_
      refine WD.two rfl rfl ?_ ?_
      · refine WL.call rfl Tryz.call10 rfl rfl (by exact (spanned_ok (g1.mono hle1 fun _ _ h => h.mono hle1) (g2.mono hle1 fun _ _ h => h.mono hle1) him hok)) ?_
        rintro _ Γ2 _ hle2 ⟨sc, vf, rfl, hS, hF, rfl⟩
        obtain ⟨x1, n1, c1, x2, n2, c2, x3, n3, c3, x4, n4, c4, x5, n5, c5, x6, n6, c6, rfl⟩ := SecR.shape hS
        have hle12 := hle1.trans hle2
        refine dz_ ?_
        (refine WL.alloc tab_ok rfl rfl ?_; intro b7)
        refine dz_ ?_
        refine gz_ ?_
        exact WE.mid ⟨b7, _, vf, hle1.trans hle2, rfl, rfl, hS, hF⟩ sr_ sn_
      · (refine WL.alloc tab_ok rfl rfl ?_; intro b7)
        refine dz_ ?_
        refine WL.call rfl Tryz.call10 rfl rfl (by exact (spanned_ok (g1.mono hle1 fun _ _ h => h.mono hle1) (g2.mono hle1 fun _ _ h => h.mono hle1) him hok)) ?_
        rintro _ Γ2 _ hle2 ⟨sc, vf, rfl, hS, hF, rfl⟩
        obtain ⟨x1, n1, c1, x2, n2, c2, x3, n3, c3, x4, n4, c4, x5, n5, c5, x6, n6, c6, rfl⟩ := SecR.shape hS
        have hle12 := hle1.trans hle2
        refine dz_ ?_
        refine gz_ ?_
        exact WE.mid ⟨b7, _, vf, hle1.trans hle2, rfl, rfl, hS, hF⟩ sr_ sn_
    · (refine WL.alloc tab_ok rfl rfl ?_; intro b7)
      refine dz_ ?_
      refine WL.call rfl Tryz.call11 rfl rfl (by exact (none_ok g2 hf9l)) ?_
      rintro v3 Γ1 _ - ⟨hle1, him, rfl⟩
      refine dz_ ?_
      refine WL.call rfl Tryz.call10 rfl rfl (by exact (spanned_ok (g1.mono hle1 fun _ _ h => h.mono hle1) (g2.mono hle1 fun _ _ h => h.mono hle1) him hok)) ?_
      rintro _ Γ2 _ hle2 ⟨sc, vf, rfl, hS, hF, rfl⟩
      obtain ⟨x1, n1, c1, x2, n2, c2, x3, n3, c3, x4, n4, c4, x5, n5, c5, x6, n6, c6, rfl⟩ := SecR.shape hS
      have hle12 := hle1.trans hle2
      refine dz_ ?_
      refine gz_ ?_
      exact WE.mid ⟨b7, _, vf, hle1.trans hle2, rfl, rfl, hS, hF⟩ sr_ sn_
  rintro R' Γ2 H' ⟨b9, cs, vf, hle2, rfl, rfl, hS, hF⟩
  obtain ⟨x1, n1, c1, x2, n2, c2, x3, n3, c3, x4, n4, c4, x5, n5, c5, x6, n6, c6, ecs⟩ := SecR.shape hS
  injection ecs with ecs
  have ecs2 := congrArg Array.toList ecs
  simp only [] at ecs2
  subst ecs2
  have ht : (spanN l xs (bgn l + (lstsT l (sp.take kn)).length) n0).tag ≠ 0 := by show (17 : Int) ≠ 0; decide
  obtain ⟨bf, oF, cf, be, oe, ce, off, rfl, hc1, hc2, ho⟩ := found_at hok hF hxs hu0 hx' htg
  obtain ⟨bf', oF', cf', be', oe', ce', off', ef, hd1, hd2, ho'⟩ := found_at hok hF hxs hu0 htop ht
  injection ef with ef1 ef2 ef3
  injection ef1 with ef1
  injection ef1 with ef4 ef5
  subst ef4 ef5 ef3
  rw [hc1] at hd1
  injection hd1 with hd1
  injection hd1 with hd1a hd1b hd1c
  injection hd1a with hd1a
  injection hd1a with hd1d hd1e
  subst hd1d hd1e hd1c
  have hlst := hR.lst kn
  have hbg := bgn_le l
  obtain ⟨post, hrd, hrl⟩ := rt_drop (l := l) hxs
  have hRS0 : RgS l 17 (itsAt l.big (mkU l sp us) kn (uniS l xs (bgn l + (lstsT l (sp.take kn)).length) u0) 0 (spanN l xs (bgn l + (lstsT l (sp.take kn)).length) n0)) (rtOf l sp) (plcs xs) :=
    span_says hsx hrl (by omega) (fun hl => by rw [hrd]; unfold lstZ; rw [if_pos hl])
  have hRS : RgS l x.tag.toNat (itsAt l.big (mkU l sp us) kn (uniS l xs (bgn l + (lstsT l (sp.take kn)).length) u0) nn x) (rtOf l sp) [] := node_says hsay
  have hrn := plcs_len2 hsx
  have hnn0 := hou.n0
  refine gz_ ?_
  refine WC.cutM (fun R' Γ' H' => ∃ vo, Γ2.le Γ' ∧ R' = [(1, .slice a1 sp.length cap1), (3, .int .i64 ((kn : Nat) : Int)), (13, .pointer (some ⟨b9, 0, none⟩)), (14, .slice (some ⟨bf, oF, none⟩) us.length cf), (15, vo), (16, .int .i64 0)] ∧
      H' = (b9, cel [.slice x1 n1 c1, .slice x2 n2 c2, .slice x3 n3 c3, .slice x4 n4 c4, .slice x5 n5 c5, .slice x6 n6 c6, nls] 32) :: H ∧ Im Γ' vo 0 []) ?_ ?_
  · refine WC.draw 16 (.take 0 (.take 1 (.take 2 (.take 3 (.take 4 (.take 5 (.take 6 (.take 7 (.take 8 (.take 9 (.one 10 (.take 11 (.take 12 (.take 13 (.one 14 (.one 15 .done)))))))))))))))) ((b9, _) :: []) mixed (by (repeat (first | exact trivial | refine ⟨⟨_, pk_⟩, ?_⟩ | exact subH_self _ | apply subH_cons)); (first | done | fail)) (by decide +kernel) ?_
    refine dz_ ?_
    refine WL.call rfl Tryz.call13 rfl rfl (by exact (rangesAt_spd (hG.mono hle2) hok hR hS hxs hu0 hx' htg ho hRS (by simp))) ?_
    rintro _ Γ3 _ hle3 ⟨vo, rfl, him, rfl⟩
    refine dz_ ?_
    refine gz_ ?_
    exact WE.mid ⟨vo, hle3, rfl, rfl, him⟩ sr_ sn_
  rintro R' Γ3 H' ⟨vo, hle3, rfl, rfl, him⟩
  have hc1 := hle3.cell hc1
  have hd2 := hle3.cell hd2
  have hS3 := hS.mono hle3
  refine gz_ ?_
  refine WC.cutM (fun R' Γ' H' => ∃ vo2, Γ3.le Γ' ∧ R' = [(1, .slice a1 sp.length cap1), (3, .int .i64 ((kn : Nat) : Int)), (15, vo), (16, .int .i64 0), (17, vo2), (18, .int .i64 0)] ∧ H' = H ∧ Im Γ' vo2 (plcs xs).length (pcells (plcs xs))) ?_ ?_
  · refine WC.draw 15 (.take 0 (.take 1 (.take 2 (.take 3 (.take 4 (.take 5 (.take 6 (.take 7 (.take 8 (.one 9 (.take 10 (.take 11 (.take 12 (.one 13 (.one 14 .done))))))))))))))) ((b9, _) :: []) mixed (by (repeat (first | exact trivial | refine ⟨⟨_, pk_⟩, ?_⟩ | exact subH_self _ | apply subH_cons)); (first | done | fail)) (by decide +kernel) ?_
    refine dz_ ?_
    refine WL.call rfl Tryz.call13 rfl rfl (by exact (rangesAt_spd (hG.mono (hle2.trans hle3)) hok hR hS3 hxs hu0 htop ht ho' hRS0 hrn)) ?_
    rintro _ Γ4 _ hle4 ⟨vo2, rfl, him2, rfl⟩
    refine dz_ ?_
    refine gz_ ?_
    exact WE.mid ⟨vo2, hle4, rfl, rfl, him2⟩ sr_ sn_
  rintro R' Γ4 H' ⟨vo2, hle4, rfl, rfl, him2⟩
  have hle23 := (hle2.trans hle3).trans hle4
  have g13 := g1.mono hle23 fun _ _ h => h.mono hle23
  obtain ⟨a1', cap1', cells1', e1', hcap1', hA1', hL1'⟩ := g13
  injection e1' with e1a e1b e1c
  subst e1a e1c
  obtain ⟨b5, o5, c5', rfl, hP5, hc5⟩ := elemA hA1' hL1' (fun _ _ h => h.len) (w := 5) (by decide) hxs
  have hP5' := hP5
  obtain ⟨vp, rfl, ap, capp, cellsp, rfl, -, -, -⟩ := hP5'
  obtain ⟨av, cv, rfl, -, -⟩ := him
  obtain ⟨aw, cw, rfl, -, -⟩ := him2
  refine gz_ ?_
  refine WL.call rfl Tryz.call15 rfl rfl (by exact (Places_ok hP5 (hf7s xs (List.mem_of_getElem? hxs)))) ?_
  rintro _ _ _ - ⟨rfl, Hs, how, rfl⟩
  obtain ⟨a9, c9, rfl⟩ := Ow.shape how
  refine gz_ ?_
  exact end_1 rfl rfl hle23 (by simp)
end Go.Proofs.YtdplhbmoidepgaaGreatDoor
