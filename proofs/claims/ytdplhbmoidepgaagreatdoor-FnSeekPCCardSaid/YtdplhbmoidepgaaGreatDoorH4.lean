/- FnIsBig. -/
import Derived.Test.YtdplhbmoidepgaaGreatDoorH3
namespace Go.Proofs.YtdplhbmoidepgaaGreatDoor
open Go Go.Sl
set_option maxRecDepth 10000
set_option maxHeartbeats 40000000

theorem reps_one (x : Value) : ∀ k, reps k [x] = List.replicate k x
  | 0 => rfl
  | k + 1 => by rw [reps, reps_one x k, List.replicate_succ]; rfl
theorem none_ok {Γ : Env} {H : List Blk} {v : Value} {us : List Uni} (h : Arr Γ (UniC Γ) v us) (hn : us.length ≤ 2147483647) :
   Spc Tryz.prog 11 #[v] Γ H (fun v Γ' H' => Γ.le Γ' ∧ Im Γ' v us.length (List.replicate us.length nilS) ∧ H' = H) := by
  obtain ⟨a, cap, cells, rfl, hcap, hA, hL⟩ := h
  refine Spc.body1 Tryz.func11 rfl Tryz.ntmps11 rfl ?_
  refine gz_ ?_
  (refine WL.make tab_ok rfl rfl rfl rfl rfl rfl rfl rfl (by omega) (by omega) (by omega) rfl ?_; intro bm)
  refine gz_ ?_
  rw [Int.toNat_natCast, reps_one]
  have how : Ow 1 (.slice (some ⟨bm, 0, none⟩) us.length us.length) us.length (List.replicate us.length nilS) [(bm, cel (List.replicate us.length nilS ++ []) 59)] :=
    Ow.row (Nat.le_refl _) (by rw [List.length_replicate]; omega) (by simp) (.inl (Nat.le_refl _))
  rw [List.append_nil] at how
  refine WE.keep (F := H) how (by ((repeat (first | apply Tk.one | apply Tk.skip | apply Tk.over)); (first | done | fail))) (fun Γ1 hle1 him => ?_)
  exact end_1 rfl rfl hle1 ⟨hle1, him, rfl⟩
theorem SecR.shape {Γ : Env} {v : Value} {ab info ln rg sr lin : List UInt8} {rl : Option (List UInt8)} (h : SecR Γ v ab info ln rg sr lin rl) :
    ∃ a1 n1 c1 a2 n2 c2 a3 n3 c3 a4 n4 c4 a5 n5 c5 a6 n6 c6, v = .agg #[.slice a1 n1 c1, .slice a2 n2 c2, .slice a3 n3 c3, .slice a4 n4 c4, .slice a5 n5 c5, .slice a6 n6 c6, nls] := by
  obtain ⟨vA, vI, vL, vR, vS, vD, rfl, ⟨_, _, rfl, -, -⟩, ⟨_, _, rfl, -, -⟩, ⟨_, _, rfl, -, -⟩, ⟨_, _, rfl, -, -⟩, ⟨_, _, rfl, -, -⟩, hD⟩ := h.ex
  obtain ⟨b, cap, vl, -, -, -, h4⟩ := hD
  cases rl with
  | none =>
    obtain ⟨rfl, -⟩ := h4
    exact ⟨_, _, _, _, _, _, _, _, _, _, _, _, _, _, _, _, _, _, rfl⟩
  | some r =>
    obtain ⟨rfl, -⟩ := h4
    exact ⟨_, _, _, _, _, _, _, _, _, _, _, _, _, _, _, _, _, _, rfl⟩
/-- What Spanned gives. -/
abbrev SpR (Γ : Env) (l : Lay) (sp : List Spn) (us : List Uni) (sc vf : Value) : Prop :=
  SecR Γ sc (abT (mkU l sp us)) (pusB l.big (pusU l.big 0 0 0 0 (mkU l sp us))) [] (if 4 < l.vers then [] else lstsT l sp) (strT (mkU l sp us)) (linT (mkU l sp us)) (if 4 < l.vers then some (headT l (lstsT l sp)) else none) ∧
     Arr Γ (FndC Γ l.big (mkU l sp us)) vf (List.range us.length)
theorem fnIsBig_ok {Γ : Env} {H : List Blk} {l : Lay} {sp : List Spn} {us : List Uni} {v1 v2 : Value} (hG : Glob Γ) (h1 : Arr Γ (SpnC Γ) v1 sp) (h2 : Arr Γ (UniC Γ) v2 us) :
   Spc Tryz.prog 3 #[layV l, v1, v2] Γ H (fun v Γ' H' => v = .bool true) := by
  have g1 := h1
  have g2 := h2
  obtain ⟨a1, cap1, cells1, rfl, hcap1, hA1, hL1⟩ := h1
  obtain ⟨a2, cap2, cells2, rfl, hcap2, hA2, hL2⟩ := h2
  refine Spc.body3 Tryz.func3 rfl Tryz.ntmps3 rfl ?_
  refine WC.seq ?_
  refine WC.region ?_
  (refine WL.box rfl spi_ rfl ?_; intro b3)
  refine gz_ ?_
  refine WL.call rfl Tryz.call7 rfl rfl (by exact (zzFits7_ok g1)) ?_
  rintro _ _ _ - ⟨rfl, rfl, f7, rfl, hf7⟩
  refine gz_ ?_
  cases f7 with
  | false =>
    refine gz_ ?_
    exact end_1 rfl rfl (Env.le.rfl' _) rfl
  | true =>
  refine gz_ ?_
  refine WL.call rfl Tryz.call8 rfl rfl (by exact (zzFits9_ok g2)) ?_
  rintro _ _ _ - ⟨rfl, rfl, f9, rfl, hf9⟩
  refine gz_ ?_
  cases f9 with
  | false =>
    refine gz_ ?_
    exact end_1 rfl rfl (Env.le.rfl' _) rfl
  | true =>
  obtain ⟨hf7l, hf7s⟩ := hf7 rfl
  obtain ⟨hf9l, hf9u⟩ := hf9 rfl
  refine gz_ ?_
  refine WL.call rfl Tryz.call9 rfl rfl (by exact (areSpanned_ok (l := l) g1 g2 hf7l hf7s hf9l hf9u)) ?_
  rintro _ _ _ - ⟨rfl, rfl, fs, rfl, hfs⟩
  refine gz_ ?_
  cases fs with
  | false =>
    refine gz_ ?_
    exact end_1 rfl rfl (Env.le.rfl' _) rfl
  | true =>
  have hok := hfs rfl
  have hnum := numsU hA2 hL2
  refine gz_ ?_
  refine WC.cutM (fun R' Γ' H' => ∃ b7 cs vf, Γ.le Γ' ∧ R' = [(3, .pointer (some ⟨b3, 0, none⟩)), (7, .pointer (some ⟨b7, 0, none⟩)), (8, vf)] ∧ H' = (b7, cel cs 32) :: (b3, layC l) :: H ∧ SpR Γ' l sp us (.agg cs.toArray) vf) ?_ ?_
  · refine WC.draw 11 (.take 0 (.take 1 (.take 2 (.take 3 (.two 4 9 (.two 5 9 (.take 6 (.take 7 (.take 8 (.one 9 (.one 10 (.one 11 .done)))))) (.one 5 (.take 6 (.take 7 (.take 8 (.one 10 (.one 11 .done))))))) (.one 4 (.one 5 (.take 6 (.take 7 (.take 8 (.one 10 (.one 11 .done)))))))))))) ((b3, _) :: []) mixed (by (repeat (first | exact trivial | refine ⟨⟨_, pk_⟩, ?_⟩ | exact subH_self _ | apply subH_cons)); (first | done | fail)) (by decide +kernel) ?_
    refine dz_ ?_
    refine WD.two rfl rfl ?_ ?_
    · refine WL.call rfl Tryz.call11 rfl rfl (by exact (none_ok g2 hf9l)) ?_
      rintro v3 Γ1 _ - ⟨hle1, him, rfl⟩
      refine dz_ ?_
      refine WD.two rfl rfl ?_ ?_
      · refine WL.call rfl Tryz.call10 rfl rfl (by exact (spanned_ok (g1.mono hle1 fun _ _ h => h.mono hle1) (g2.mono hle1 fun _ _ h => h.mono hle1) him hok)) ?_
        rintro _ Γ2 _ hle2 ⟨sc, vf, rfl, hS, hF, rfl⟩
        obtain ⟨x1, n1, c1, x2, n2, c2, x3, n3, c3, x4, n4, c4, x5, n5, c5, x6, n6, c6, rfl⟩ := SecR.shape hS
        have hle12 := hle1.trans hle2
        refine dz_ ?_
        (refine WL.alloc tab_ok rfl rfl ?_; intro b7)
        refine dz_ ?_
        refine gz_ ?_
        exact WE.mid ⟨b7, _, vf, hle1.trans hle2, rfl, rfl, hS, hF⟩ sr_ sn_
      · (refine WL.alloc tab_ok rfl rfl ?_; intro b7)
        refine dz_ ?_
        refine WL.call rfl Tryz.call10 rfl rfl (by exact (spanned_ok (g1.mono hle1 fun _ _ h => h.mono hle1) (g2.mono hle1 fun _ _ h => h.mono hle1) him hok)) ?_
        rintro _ Γ2 _ hle2 ⟨sc, vf, rfl, hS, hF, rfl⟩
        obtain ⟨x1, n1, c1, x2, n2, c2, x3, n3, c3, x4, n4, c4, x5, n5, c5, x6, n6, c6, rfl⟩ := SecR.shape hS
        have hle12 := hle1.trans hle2
        refine dz_ ?_
        refine gz_ ?_
        exact WE.mid ⟨b7, _, vf, hle1.trans hle2, rfl, rfl, hS, hF⟩ sr_ sn_
    · (refine WL.alloc tab_ok rfl rfl ?_; intro b7)
      refine dz_ ?_
      refine WL.call rfl Tryz.call11 rfl rfl (by exact (none_ok g2 hf9l)) ?_
      rintro v3 Γ1 _ - ⟨hle1, him, rfl⟩
      refine dz_ ?_
      refine WL.call rfl Tryz.call10 rfl rfl (by exact (spanned_ok (g1.mono hle1 fun _ _ h => h.mono hle1) (g2.mono hle1 fun _ _ h => h.mono hle1) him hok)) ?_
      rintro _ Γ2 _ hle2 ⟨sc, vf, rfl, hS, hF, rfl⟩
      obtain ⟨x1, n1, c1, x2, n2, c2, x3, n3, c3, x4, n4, c4, x5, n5, c5, x6, n6, c6, rfl⟩ := SecR.shape hS
      have hle12 := hle1.trans hle2
      refine dz_ ?_
      refine gz_ ?_
      exact WE.mid ⟨b7, _, vf, hle1.trans hle2, rfl, rfl, hS, hF⟩ sr_ sn_
  rintro R' Γ2 H' ⟨b7, cs, vf, hle2, rfl, rfl, hS, hF⟩
  obtain ⟨x1, n1, c1, x2, n2, c2, x3, n3, c3, x4, n4, c4, x5, n5, c5, x6, n6, c6, ecs⟩ := SecR.shape hS
  injection ecs with ecs
  have ecs2 := congrArg Array.toList ecs
  simp only [] at ecs2
  subst ecs2
  refine gz_ ?_
  have hR := mkR hok hnum
  obtain ⟨u0, hu0⟩ : ∃ u, us[0]? = some u := ⟨_, List.getElem?_eq_getElem hR.n0⟩
  obtain ⟨x0, hx0, hm0⟩ := mkU_get hok hu0
  obtain ⟨hsx, -, -, -, hou⟩ := hok.each 0 x0 u0 hx0 hu0
  obtain ⟨n0, -, hn0⟩ := top_nod (l := l) (x := x0) (k := bgn l + (lstsT l (sp.take 0)).length) hou.n0
  obtain ⟨pre, post, hb, hpl, hD⟩ := die_at (big := l.big) hR.uni hm0 hR.inf hR.str hR.lin hn0 (by show (17 : Int) ≠ 0; decide)
  have hp0 : pre = [] := List.eq_nil_of_length_eq_zero (by rw [hpl]; rfl)
  subst hp0
  have hlenP : (pusU l.big 0 0 0 0 (mkU l sp us)).length = us.length := by rw [pusU_length]; exact hR.len
  have hz2 := (hR.uni _ (List.mem_of_getElem? hm0)).sz
  have hT : PTop (uctx l.big (strT (mkU l sp us)) (linT (mkU l sp us)) 0 (puAt l.big (mkU l sp us) 0 (uniS l x0 (bgn l + (lstsT l (sp.take 0)).length) u0))) (puAt l.big (mkU l sp us) 0 (uniS l x0 (bgn l + (lstsT l (sp.take 0)).length) u0)) :=
    ⟨by show Int.toNat _ = 4 ∨ Int.toNat _ = 8; omega, _, _, post, hb, hD⟩
  have h4 := hR.n4
  refine WL.call rfl Tryz.call12 rfl rfl (by exact (isBig_ok (hG.mono hle2) hS hR.ok pusU_pair hR.ab hR.inf (by omega) (by simp) hR.rg hR.str hR.lin hR.rl (puAt_get hm0) hT)) ?_
  rintro _ Γ3 _ hle3 ⟨rfl, rfl⟩
  refine gz_ ?_
  exact end_1 rfl rfl (hle2.trans hle3) (by simp)
end Go.Proofs.YtdplhbmoidepgaaGreatDoor
