/- FnRangesAre: the walk. -/
import Derived.Test.YtdplhbmoidepgaaGreatDoorQ2
namespace Go.Proofs.YtdplhbmoidepgaaGreatDoor
open Go Go.Sl
set_option maxRecDepth 10000
set_option maxHeartbeats 40000000

theorem plcs_len2 {l : Lay} {x : Spn} (hx : OkSpn l x) : (plcs x).length ≤ 1000 := by
  have h1 := hx.np
  cases hl : x.lst with
  | true => have := plcs_len x hl; omega
  | false => unfold plcs; rw [hl]; simp
theorem fnRangesAre_ok {Γ : Env} {H : List Blk} {l : Lay} {sp : List Spn} {us : List Uni} {v1 v2 : Value} {k : Int} (hG : Glob Γ) (h1 : Arr Γ (SpnC Γ) v1 sp) (h2 : Arr Γ (UniC Γ) v2 us) :
   Spc Tryz.prog 4 #[layV l, v1, v2, .int .i64 k] Γ H (fun v Γ' H' => v = .bool true) := by
  have g1 := h1
  have g2 := h2
  obtain ⟨a1, cap1, cells1, rfl, hcap1, hA1, hL1⟩ := h1
  obtain ⟨a2, cap2, cells2, rfl, hcap2, hA2, hL2⟩ := h2
  refine Spc.body4 Tryz.func4 rfl Tryz.ntmps4 rfl ?_
  refine WC.seq ?_
  refine WC.region ?_
  (refine WL.box rfl spi_ rfl ?_; intro b3)
  refine gz_ ?_
  refine WL.call rfl Tryz.call7 rfl rfl (by exact (zzFits7_ok g1)) ?_
  rintro _ _ _ - ⟨rfl, rfl, f7, rfl, hf7⟩
  refine gz_ ?_
  cases f7 with
  | false =>
    refine gz_ ?_
    exact end_1 rfl rfl (Env.le.rfl' _) rfl
  | true =>
  refine gz_ ?_
  refine WL.call rfl Tryz.call8 rfl rfl (by exact (zzFits9_ok g2)) ?_
  rintro _ _ _ - ⟨rfl, rfl, f9, rfl, hf9⟩
  refine gz_ ?_
  cases f9 with
  | false =>
    refine gz_ ?_
    exact end_1 rfl rfl (Env.le.rfl' _) rfl
  | true =>
  obtain ⟨hf7l, hf7s⟩ := hf7 rfl
  obtain ⟨hf9l, hf9u⟩ := hf9 rfl
  refine gz_ ?_
  refine WL.call rfl Tryz.call9 rfl rfl (by exact (areSpanned_ok (l := l) g1 g2 hf7l hf7s hf9l hf9u)) ?_
  rintro _ _ _ - ⟨rfl, rfl, fs, rfl, hfs⟩
  refine gz_ ?_
  cases fs with
  | false =>
    refine gz_ ?_
    exact end_1 rfl rfl (Env.le.rfl' _) rfl
  | true =>
  have hok := hfs rfl
  have hnum := numsU hA2 hL2
  refine gz_ ?_
  cases e1 : decide (k < 0) with
  | true =>
    refine gz_ ?_
    exact end_1 rfl rfl (Env.le.rfl' _) rfl
  | false =>
  refine gz_ ?_
  cases e2 : decide ((us.length : Int) ≤ k) with
  | true =>
    refine gz_ ?_
    exact end_1 rfl rfl (Env.le.rfl' _) rfl
  | false =>
  have k1 := of_decide_eq_false e1
  have k2 := of_decide_eq_false e2
  obtain ⟨kn, rfl⟩ : ∃ kn : Nat, k = (kn : Int) := ⟨k.toNat, by omega⟩
  obtain ⟨u0, hu0⟩ : ∃ u, us[kn]? = some u := ⟨_, List.getElem?_eq_getElem (by omega)⟩
  have hsl := hok.sl
  obtain ⟨xs, hxs⟩ : ∃ u, sp[kn]? = some u := ⟨_, List.getElem?_eq_getElem (by omega)⟩
  have hR := mkR hok hnum
  have hsx := (hok.each kn xs u0 hxs hu0).1
  have hou := (hok.each kn xs u0 hxs hu0).2.2.2.2
  obtain ⟨nn, hnn, htop⟩ := top_nod (l := l) (x := xs) (k := bgn l + (lstsT l (sp.take kn)).length) hou.n0
  refine gz_ ?_
  refine WC.cutM (fun R' Γ' H' => ∃ b9 cs vf, Γ.le Γ' ∧ R' = [(1, .slice a1 sp.length cap1), (3, .int .i64 ((kn : Nat) : Int)), (9, .pointer (some ⟨b9, 0, none⟩)), (10, vf)] ∧ H' = (b9, cel cs 32) :: (b3, layC l) :: H ∧ SpR Γ' l sp us (.agg cs.toArray) vf) ?_ ?_
  · refine WC.draw 11 (.take 0 (.take 1 (.take 2 (.take 3 (.two 4 9 (.two 5 9 (.take 6 (.take 7 (.take 8 (.one 9 (.one 10 (.one 11 .done)))))) (.one 5 (.take 6 (.take 7 (.take 8 (.one 10 (.one 11 .done))))))) (.one 4 (.one 5 (.take 6 (.take 7 (.take 8 (.one 10 (.one 11 .done)))))))))))) ((b3, _) :: []) mixed (by (repeat (first | exact trivial | refine ⟨⟨_, pk_⟩, ?_⟩ | exact subH_self _ | apply subH_cons)); (first | done | fail)) (by decide +kernel) ?_
    refine dz_ ?_
    refine WD.two rfl rfl ?_ ?_
    · refine WL.call rfl Tryz.call11 rfl rfl (by exact (none_ok g2 hf9l)) ?_
      rintro v3 Γ1 _ - ⟨hle1, him, rfl⟩
      refine dz_ ?_
      refine WD.two rfl rfl ?_ ?_
      · refine WL.call rfl Tryz.call10 rfl rfl (by exact (spanned_ok (g1.mono hle1 fun _ _ h => h.mono hle1) (g2.mono hle1 fun _ _ h => h.mono hle1) him hok)) ?_
        rintro _ Γ2 _ hle2 ⟨sc, vf, rfl, hS, hF, rfl⟩
        obtain ⟨x1, n1, c1, x2, n2, c2, x3, n3, c3, x4, n4, c4, x5, n5, c5, x6, n6, c6, rfl⟩ := SecR.shape hS
        have hle12 := hle1.trans hle2
        refine dz_ ?_
        (refine WL.alloc tab_ok rfl rfl ?_; intro b7)
        refine dz_ ?_
        refine gz_ ?_
        exact WE.mid ⟨b7, _, vf, hle1.trans hle2, rfl, rfl, hS, hF⟩ sr_ sn_
      · (refine WL.alloc tab_ok rfl rfl ?_; intro b7)
        refine dz_ ?_
        refine WL.call rfl Tryz.call10 rfl rfl (by exact (spanned_ok (g1.mono hle1 fun _ _ h => h.mono hle1) (g2.mono hle1 fun _ _ h => h.mono hle1) him hok)) ?_
        rintro _ Γ2 _ hle2 ⟨sc, vf, rfl, hS, hF, rfl⟩
        obtain ⟨x1, n1, c1, x2, n2, c2, x3, n3, c3, x4, n4, c4, x5, n5, c5, x6, n6, c6, rfl⟩ := SecR.shape hS
        have hle12 := hle1.trans hle2
        refine dz_ ?_
        refine gz_ ?_
        exact WE.mid ⟨b7, _, vf, hle1.trans hle2, rfl, rfl, hS, hF⟩ sr_ sn_
    · (refine WL.alloc tab_ok rfl rfl ?_; intro b7)
      refine dz_ ?_
      refine WL.call rfl Tryz.call11 rfl rfl (by exact (none_ok g2 hf9l)) ?_
      rintro v3 Γ1 _ - ⟨hle1, him, rfl⟩
      refine dz_ ?_
      refine WL.call rfl Tryz.call10 rfl rfl (by exact (spanned_ok (g1.mono hle1 fun _ _ h => h.mono hle1) (g2.mono hle1 fun _ _ h => h.mono hle1) him hok)) ?_
      rintro _ Γ2 _ hle2 ⟨sc, vf, rfl, hS, hF, rfl⟩
      obtain ⟨x1, n1, c1, x2, n2, c2, x3, n3, c3, x4, n4, c4, x5, n5, c5, x6, n6, c6, rfl⟩ := SecR.shape hS
      have hle12 := hle1.trans hle2
      refine dz_ ?_
      refine gz_ ?_
      exact WE.mid ⟨b7, _, vf, hle1.trans hle2, rfl, rfl, hS, hF⟩ sr_ sn_
  rintro R' Γ2 H' ⟨b9, cs, vf, hle2, rfl, rfl, hS, hF⟩
  obtain ⟨x1, n1, c1, x2, n2, c2, x3, n3, c3, x4, n4, c4, x5, n5, c5, x6, n6, c6, ecs⟩ := SecR.shape hS
  injection ecs with ecs
  have ecs2 := congrArg Array.toList ecs
  simp only [] at ecs2
  subst ecs2
  have ht : (spanN l xs (bgn l + (lstsT l (sp.take kn)).length) nn).tag ≠ 0 := by show (17 : Int) ≠ 0; decide
  obtain ⟨bf, oF, cf, be, oe, ce, off, rfl, hc1, hc2, ho⟩ := found_at hok hF hxs hu0 htop ht
  have hlst := hR.lst kn
  have hbg := bgn_le l
  obtain ⟨post, hrd, hrl⟩ := rt_drop (l := l) hxs
  have hRS : RgS l 17 (itsAt l.big (mkU l sp us) kn (uniS l xs (bgn l + (lstsT l (sp.take kn)).length) u0) 0 (spanN l xs (bgn l + (lstsT l (sp.take kn)).length) nn)) (rtOf l sp) (plcs xs) :=
    span_says hsx hrl (by omega) (fun hl => by rw [hrd]; unfold lstZ; rw [if_pos hl])
  have hrn := plcs_len2 hsx
  have hn0 := hou.n0
  refine gz_ ?_
  refine WC.cutM (fun R' Γ' H' => ∃ vo, Γ2.le Γ' ∧ R' = [(1, .slice a1 sp.length cap1), (3, .int .i64 ((kn : Nat) : Int)), (11, vo), (12, .int .i64 0)] ∧ H' = H ∧ Im Γ' vo (plcs xs).length (pcells (plcs xs))) ?_ ?_
  · refine WC.draw 15 (.take 0 (.take 1 (.take 2 (.take 3 (.take 4 (.take 5 (.take 6 (.take 7 (.take 8 (.one 9 (.take 10 (.take 11 (.take 12 (.one 13 (.one 14 .done))))))))))))))) ((b9, _) :: []) mixed (by (repeat (first | exact trivial | refine ⟨⟨_, pk_⟩, ?_⟩ | exact subH_self _ | apply subH_cons)); (first | done | fail)) (by decide +kernel) ?_
    refine dz_ ?_
    refine WL.call rfl Tryz.call13 rfl rfl (by exact (rangesAt_spd (hG.mono hle2) hok hR hS hxs hu0 htop ht ho hRS hrn)) ?_
    rintro _ Γ3 _ hle3 ⟨vo, rfl, him, rfl⟩
    refine dz_ ?_
    refine gz_ ?_
    exact WE.mid ⟨vo, hle3, rfl, rfl, him⟩ sr_ sn_
  rintro R' Γ3 H' ⟨vo, hle3, rfl, rfl, him⟩
  have hle23 := hle2.trans hle3
  have g13 := g1.mono hle23 fun _ _ h => h.mono hle23
  obtain ⟨a1', cap1', cells1', e1', hcap1', hA1', hL1'⟩ := g13
  injection e1' with e1a e1b e1c
  subst e1a e1c
  obtain ⟨b5, o5, c5, rfl, hP5, hc5⟩ := elemA hA1' hL1' (fun _ _ h => h.len) (w := 5) (by decide) hxs
  have hP5' := hP5
  obtain ⟨vp, rfl, ap, capp, cellsp, rfl, -, -, -⟩ := hP5'
  refine gz_ ?_
  refine WL.call rfl Tryz.call15 rfl rfl (by exact (Places_ok hP5 (hf7s xs (List.mem_of_getElem? hxs)))) ?_
  rintro _ _ _ - ⟨rfl, Hs, how, rfl⟩
  refine WL.keep how tk_ (fun Γ4 hle4 him4 => ?_)
  refine gz_ ?_
  refine WL.call rfl Tryz.call14 rfl rfl (by exact (samePlaces_ok (Im.pairs (him.mono hle4)) (Im.pairs him4) (by omega))) ?_
  rintro _ _ _ - ⟨rfl, rfl, rfl⟩
  refine gz_ ?_
  exact end_1 rfl rfl (hle23.trans hle4) rfl
end Go.Proofs.YtdplhbmoidepgaaGreatDoor
