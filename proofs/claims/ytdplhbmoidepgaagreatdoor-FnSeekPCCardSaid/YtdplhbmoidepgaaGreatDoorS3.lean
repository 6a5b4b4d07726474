/- FnSeekPC: the walk. What the two errors' variables hold. -/
import Derived.Test.YtdplhbmoidepgaaGreatDoorS2
import Derived.Test.YtdplhbmoidepgaaGreatDoorR1
import Derived.Test.YtdplhbmoidepgaaGreatDoorS1
import Derived.LaidLaws
namespace Go.Proofs.YtdplhbmoidepgaaGreatDoor
open Go Go.Sl
set_option maxRecDepth 10000
set_option maxHeartbeats 40000000

theorem plcs_len3 {l : Lay} {x : Spn} (hx : OkSpn l x) : (plcs x).length ≤ 1000 := by
  have h1 := hx.np
  cases hl : x.lst with
  | true => have := plcs_len x hl; omega
  | false => unfold plcs; rw [hl]; simp
theorem found_w {Γ : Env} {l : Lay} {sp : List Spn} {us : List Uni} {vf : Value} {k : Nat} {xs : Spn} {u0 : Uni} (hok : OkSpd l sp us) (hF : Arr Γ (FndC Γ l.big (mkU l sp us)) vf (List.range us.length)) (hxs : sp[k]? = some xs) (hu0 : us[k]? = some u0) :
   ∃ bf oF cf be oe ce, vf = .slice (some ⟨bf, oF, none⟩) us.length cf ∧ Γ.cell bf (oF + ((k : Nat) : Int).toNat * 2 + 1) = some (.slice (some ⟨be, oe, none⟩) u0.nods.length ce) ∧ u0.nods.length ≤ ce ∧
   ∃ cells, ImA Γ (some ⟨be, oe, none⟩) cells ∧ LisC (EnC Γ) ((List.range u0.nods.length).map (wE l.big (mkU l sp us) k (uniS l xs (bgn l + (lstsT l (sp.take k)).length) u0))) cells := by
  obtain ⟨x', hx', hm⟩ := mkU_get hok hu0
  rw [hxs] at hx'; injection hx' with hx'; subst hx'
  have hk := (List.getElem?_eq_some_iff.1 hu0).1
  have hn0 := (hok.each k xs u0 hxs hu0).2.2.2.2.n0
  obtain ⟨a, cap, cells, rfl, hcap, hA, hL⟩ := hF
  rw [List.length_range] at hcap ⊢
  obtain ⟨bf, oF, c, rfl, ⟨u', ve, hu', rfl, hE⟩, hcf⟩ := elemA hA hL (fun _ _ h => h.len) (w := 2) (by decide) (show (List.range us.length)[k]? = some k by rw [List.getElem?_range hk])
  rw [hm] at hu'; injection hu' with hu'; subst hu'
  have hlen : (uniS l xs (bgn l + (lstsT l (sp.take k)).length) u0).nods.length = u0.nods.length := nodsS_length _ _ _ _
  have hW := arr_w hE
  rw [hlen] at hW
  obtain ⟨a2, cap2, cells2, rfl, hcap2, hA2, hL2⟩ := hW
  rw [List.length_map, List.length_range] at hcap2 hcf
  obtain ⟨be, oe, c2, rfl, -, -⟩ := elemA hA2 hL2 (fun _ _ h => h.len) (w := 4) (by decide) (i := 0) (by rw [List.getElem?_map, List.getElem?_range hn0]; rfl)
  exact ⟨bf, oF, cap, be, oe, cap2, rfl, cellsAt_get hcf 1 _ rfl, hcap2, cells2, hA2, hL2⟩
theorem secR_mono {Γ Γ' : Env} (hle : Γ.le Γ') {v : Value} {ab info ln rg sr lin : List UInt8} {rl : Option (List UInt8)} (h : SecR Γ v ab info ln rg sr lin rl) : SecR Γ' v ab info ln rg sr lin rl := by
  obtain ⟨vA, vI, vL, vR, vS, vD, rfl, h1, h2, h3, h4, h5, h6⟩ := h.ex
  exact ⟨vA, vI, vL, vR, vS, vD, rfl, h1.mono hle, h2.mono hle, h3.mono hle, h4.mono hle, h5.mono hle, h6.mono hle⟩
theorem tE_few {big : Bool} {U : List Uni} {k : Nat} {u : Uni} (hT : UniK u) {j : Nat} {x : Nod} (hx : u.nods[j]? = some x) : (tE big U k u j).fds.length ≤ 2147483647 := by
  have := its_few (big := big) (U := U) (k := k) (u := u) (j := j) (hT.nod x (List.mem_of_getElem? hx))
  unfold tE
  rw [hx]
  simp only
  split
  · simp
  · simp only [List.length_map]; omega
theorem nodsS_at2 {l : Lay} {x : Spn} {k n : Nat} {ns : List Nod} (h : 0 < n) : (nodsS l x k ns)[n]? = ns[n]? := by
  obtain ⟨m, rfl⟩ : ∃ m, n = m + 1 := ⟨n - 1, by omega⟩
  cases ns with
  | nil => rfl
  | cons y r => rfl
theorem arr_tail {Γ : Env} {a : Option Addr} {cap : Nat} {cells : List Value} {xs : List En} (hA : ImA Γ a cells) (hL : LisC (EnC Γ) xs cells) (hc : xs.length ≤ cap) (h0 : 0 < xs.length) :
    Arr Γ (EnC Γ) (.slice (saddr a cap 1 4) (xs.length - 1) (cap - 1)) (xs.drop 1) := by
  cases xs with
  | nil => simp at h0
  | cons x r =>
    obtain ⟨c1, c2, rfl, h1, h2⟩ := hL
    have hl1 := h1.len
    simp only [List.length_cons] at hc
    refine ⟨saddr a cap 1 4, cap - 1, c2, by simp, by simp; omega, fun i y hy => ?_, h2⟩
    obtain ⟨b, o, rfl, hcell⟩ := hA (4 + i) y (by rw [List.getElem?_append_right (by omega), hl1, Nat.add_sub_cancel_left]; exact hy)
    have hr : 0 < r.length := by
      have h3 := h2.length (fun _ _ h => EnC.len h)
      have h4 := (List.getElem?_eq_some_iff.1 hy).1
      omega
    refine ⟨b, o + 4, ?_, by rw [Nat.add_assoc]; exact hcell⟩
    unfold saddr
    rw [if_neg (by omega)]
    simp [Addr.add_lit]
theorem tails_same {T W : Nat → En} {n : Nat} (h : ∀ j, j < n → Same (T j) (W j) ∧ (T j).fds.length ≤ 2147483647) :
    ∀ (i : Nat) (x y : En), (((List.range n).map T).drop 1)[i]? = some x → (((List.range n).map W).drop 1)[i]? = some y → Same x y ∧ x.fds.length ≤ 2147483647 := by
  intro i x y hx hy
  rw [List.getElem?_drop, List.getElem?_map] at hx hy
  have hlt : 1 + i < n := by
    rcases Nat.lt_or_ge (1 + i) n with h | h
    · exact h
    · rw [List.getElem?_eq_none (by rw [List.length_range]; exact h)] at hx; cases hx
  rw [List.getElem?_range hlt] at hx hy
  injection hx with hx; injection hy with hy
  subst hx hy
  exact h _ hlt
theorem reps_snoc (l : List Value) : ∀ n, reps (n + 1) l = reps n l ++ l
  | 0 => by simp [reps]
  | n + 1 => by
    show l ++ reps (n + 1) l = (l ++ reps n l) ++ l
    rw [reps_snoc l n, List.append_assoc]
theorem reps_st : ∀ n, LisC StC (List.range n) (reps n [.int .i64 0, .int .i64 0])
  | 0 => rfl
  | n + 1 => by
    rw [List.range_succ, reps_snoc]
    exact (reps_st n).append (LisC.one rfl)
theorem im_st {Γ : Env} {v : Value} {n : Nat} (h : Im Γ v n (reps n [.int .i64 0, .int .i64 0])) : Arr Γ StC v (List.range n) := by
  obtain ⟨a, cap, rfl, hc, hA⟩ := h
  exact ⟨a, cap, _, by rw [List.length_range], by rw [List.length_range]; exact hc, hA, reps_st n⟩
theorem fnSeekPC_ok {Γ : Env} {H : List Blk} {l : Lay} {sp : List Spn} {us : List Uni} {v1 v2 : Value} {pc : Nat} {a1 : Addr} (hG : Glob Γ) (hE : SentR Γ a1) (h1 : Arr Γ (SpnC Γ) v1 sp) (h2 : Arr Γ (UniC Γ) v2 us) :
   Spc Tryz.prog 6 #[layV l, v1, v2, .int .u64 (pc : Int)] Γ H (fun v Γ' H' => v = .bool true) := by
  have g1 := h1
  have g2 := h2
  obtain ⟨a1', cap1, cells1, rfl, hcap1, hA1, hL1⟩ := h1
  obtain ⟨a2, cap2, cells2, rfl, hcap2, hA2, hL2⟩ := h2
  refine Spc.body4 Tryz.func6 rfl Tryz.ntmps6 rfl ?_
  refine WC.seq ?_
  refine WC.region ?_
  (refine WL.box rfl spi_ rfl ?_; intro b3)
  refine gz_ ?_
  refine WL.call rfl Tryz.call7 rfl rfl (by exact (zzFits7_ok g1)) ?_
  rintro _ _ _ - ⟨rfl, rfl, f7, rfl, hf7⟩
  refine gz_ ?_
  cases f7 with
  | false =>
    refine gz_ ?_
    exact end_1 rfl rfl (Env.le.rfl' _) rfl
  | true =>
  refine gz_ ?_
  refine WL.call rfl Tryz.call8 rfl rfl (by exact (zzFits9_ok g2)) ?_
  rintro _ _ _ - ⟨rfl, rfl, f9, rfl, hf9⟩
  refine gz_ ?_
  cases f9 with
  | false =>
    refine gz_ ?_
    exact end_1 rfl rfl (Env.le.rfl' _) rfl
  | true =>
  obtain ⟨hf7l, hf7s⟩ := hf7 rfl
  obtain ⟨hf9l, hf9u⟩ := hf9 rfl
  refine gz_ ?_
  refine WL.call rfl Tryz.call9 rfl rfl (by exact (areSpanned_ok (l := l) g1 g2 hf7l hf7s hf9l hf9u)) ?_
  rintro _ _ _ - ⟨rfl, rfl, fs, rfl, hfs⟩
  refine gz_ ?_
  cases fs with
  | false =>
    refine gz_ ?_
    exact end_1 rfl rfl (Env.le.rfl' _) rfl
  | true =>
  have hok := hfs rfl
  have hnum := numsU hA2 hL2
  have hsl := hok.sl
  have hR := mkR hok hnum
  have h4 := hR.n4
  refine gz_ ?_
  refine WC.loopE (fun m R' Γ' H' => ∃ i kk, R' = [(1, .slice a1' sp.length cap1), (2, .slice a2 us.length cap2), (3, .int .u64 (pc : Int)), (4, .pointer (some ⟨b3, 0, none⟩)), (9, .int .i64 kk), (34, .slice a1' sp.length cap1), (35, .int .i64 (sp.length : Int)), (36, .int .i64 ((i : Nat) : Int))] ∧ Γ.le Γ' ∧
      H' = (b3, layC l) :: H ∧ m = sp.length - i ∧ i ≤ sp.length ∧ ((kk = -1 ∧ ∀ (j : Nat) (x : Spn), j < i → sp[j]? = some x → covR (plcs x) pc = false) ∨
        (∃ (k : Nat) (x : Spn), kk = (k : Int) ∧ k < i ∧ sp[k]? = some x ∧ covR (plcs x) pc = true ∧ ∀ (j : Nat) (y : Spn), j < i → sp[j]? = some y → covR (plcs y) pc = true → j = k)))
    ⟨0, -1, rfl, Env.le.rfl' _, rfl, rfl, Nat.zero_le _, .inl ⟨rfl, fun _ _ h => by omega⟩⟩ sr_ sn_ ?_
  rintro m R' Γ1 H' ⟨i, kk, rfl, hle1, rfl, rfl, hi, hkk⟩
  have g11 := g1.mono hle1 fun _ _ h => h.mono hle1
  rcases Nat.lt_or_ge i sp.length with hlt | hge
  case inl =>
    obtain ⟨x, hx⟩ : ∃ y, sp[i]? = some y := ⟨_, List.getElem?_eq_getElem hlt⟩
    obtain ⟨aa, cc, cls, e1, hcap, hAA, hLL⟩ := g11
    injection e1 with e1a e1b e1c
    subst e1a e1c
    obtain ⟨bx, ox, cx, rfl, hPx, hcx⟩ := elemA hAA hLL (fun _ _ h => h.len) (w := 5) (by decide) hx
    have hPx' := hPx
    obtain ⟨vp, rfl, ap, capp, cellsp, rfl, -, -, -⟩ := hPx'
    have hsx := (hok.each i x _ hx (List.getElem?_eq_getElem (by omega))).1
    have hpl := plcs_len3 hsx
    have hwi : IntKind.i64.wrap ((i : Int) + 1) = (i : Int) + 1 := w_i64 (by omega) (by omega)
    refine gz_ ?_
    refine WC.condT rfl (by first | rfl | exact decide_eq_true (by omega) | (simp; (first | done | fail)) | (simp; omega)) ?_
    refine gz_ ?_
    (refine WL.alloc tab_ok rfl rfl ?_; intro b11)
    refine gz_ ?_
    refine WL.call rfl Tryz.call16 rfl rfl (by exact (covers_ok (pc := pc) hPx (hf7s x (List.mem_of_getElem? hx)) (by omega))) ?_
    rintro _ Γ2 _ hle2 ⟨-, rfl, rfl⟩
    refine gz_ ?_
    rw [show ((plcs x).any fun r => decide (r.1 ≤ pc) && decide (pc < r.2)) = covR (plcs x) pc from rfl]
    cases hc : covR (plcs x) pc with
    | false =>
      refine gz_ ?_
      refine WE.again ⟨i + 1, kk, rfl, hle1.trans hle2, rfl, rfl, hlt, ?_⟩ (by omega) ⟨rfl, rfl, rfl, rfl, rfl, rfl, rfl, congrArg (fun z => some (Value.int .i64 z)) hwi, trivial⟩ sn_
      rcases hkk with ⟨e1, hno⟩ | ⟨k, y, e1, hk, hy, hcy, hone⟩
      · refine .inl ⟨e1, fun j z hj hz => ?_⟩
        rcases Nat.lt_or_ge j i with h | h
        · exact hno j z h hz
        · have : j = i := by omega
          subst this
          rw [hx] at hz; injection hz with hz; subst hz; exact hc
      · refine .inr ⟨k, y, e1, by omega, hy, hcy, fun j z hj hz hcz => ?_⟩
        rcases Nat.lt_or_ge j i with h | h
        · exact hone j z h hz hcz
        · have : j = i := by omega
          subst this
          rw [hx] at hz; injection hz with hz; subst hz
          rw [hc] at hcz; cases hcz
    | true =>
      rcases hkk with ⟨rfl, hno⟩ | ⟨k, y, rfl, hk, hy, hcy, hone⟩
      · refine gz_ ?_
        refine WE.again ⟨i + 1, (i : Int), rfl, hle1.trans hle2, rfl, rfl, hlt, .inr ⟨i, x, rfl, by omega, hx, hc, fun j z hj hz hcz => ?_⟩⟩ (by omega) ⟨rfl, rfl, rfl, rfl, rfl, rfl, rfl, congrArg (fun z => some (Value.int .i64 z)) hwi, trivial⟩ sn_
        rcases Nat.lt_or_ge j i with h | h
        · rw [hno j z h hz] at hcz; cases hcz
        · omega
      · refine gz_ ?_
        exact end_1 rfl rfl (hle1.trans hle2) rfl
  case inr =>
  have ei : i = sp.length := by omega
  subst ei
  refine gz_ ?_
  refine WC.condF rfl (decide_eq_false (by omega)) ?_
  refine gz_ ?_
  have g21 := g2.mono hle1 fun _ _ h => h.mono hle1
  refine WC.cutM (fun R' Γ' H' => ∃ b9 cs vf, Γ1.le Γ' ∧ R' = [(3, .int .u64 (pc : Int)), (9, .int .i64 kk), (12, .pointer (some ⟨b9, 0, none⟩)), (13, vf)] ∧ H' = (b9, cel cs 32) :: (b3, layC l) :: H ∧ SpR Γ' l sp us (.agg cs.toArray) vf) ?_ ?_
  · refine WC.draw 11 (.take 0 (.take 1 (.take 2 (.take 3 (.two 4 9 (.two 5 9 (.take 6 (.take 7 (.take 8 (.one 9 (.one 10 (.one 11 .done)))))) (.one 5 (.take 6 (.take 7 (.take 8 (.one 10 (.one 11 .done))))))) (.one 4 (.one 5 (.take 6 (.take 7 (.take 8 (.one 10 (.one 11 .done)))))))))))) ((b3, _) :: []) mixed (by (repeat (first | exact trivial | refine ⟨⟨_, pk_⟩, ?_⟩ | exact subH_self _ | apply subH_cons)); (first | done | fail)) (by decide +kernel) ?_
    refine dz_ ?_
    refine WD.two rfl rfl ?_ ?_
    · refine WL.call rfl Tryz.call11 rfl rfl (by exact (none_ok g21 hf9l)) ?_
      rintro v3 Γ2 _ - ⟨hle2, him, rfl⟩
      refine dz_ ?_
      refine WD.two rfl rfl ?_ ?_
      · refine WL.call rfl Tryz.call10 rfl rfl (by exact (spanned_ok (g11.mono hle2 fun _ _ h => h.mono hle2) (g21.mono hle2 fun _ _ h => h.mono hle2) him hok)) ?_
        rintro _ Γ3 _ hle3 ⟨sc, vf, rfl, hS, hF, rfl⟩
        obtain ⟨x1, n1, c1, x2, n2, c2, x3, n3, c3, x4, n4, c4, x5, n5, c5, x6, n6, c6, rfl⟩ := SecR.shape hS
        have hle12 := hle2.trans hle3
        refine dz_ ?_
        (refine WL.alloc tab_ok rfl rfl ?_; intro b7)
        refine dz_ ?_
        refine gz_ ?_
        exact WE.mid ⟨b7, _, vf, hle12, rfl, rfl, hS, hF⟩ sr_ sn_
      · (refine WL.alloc tab_ok rfl rfl ?_; intro b7)
        refine dz_ ?_
        refine WL.call rfl Tryz.call10 rfl rfl (by exact (spanned_ok (g11.mono hle2 fun _ _ h => h.mono hle2) (g21.mono hle2 fun _ _ h => h.mono hle2) him hok)) ?_
        rintro _ Γ3 _ hle3 ⟨sc, vf, rfl, hS, hF, rfl⟩
        obtain ⟨x1, n1, c1, x2, n2, c2, x3, n3, c3, x4, n4, c4, x5, n5, c5, x6, n6, c6, rfl⟩ := SecR.shape hS
        have hle12 := hle2.trans hle3
        refine dz_ ?_
        refine gz_ ?_
        exact WE.mid ⟨b7, _, vf, hle12, rfl, rfl, hS, hF⟩ sr_ sn_
    · (refine WL.alloc tab_ok rfl rfl ?_; intro b7)
      refine dz_ ?_
      refine WL.call rfl Tryz.call11 rfl rfl (by exact (none_ok g21 hf9l)) ?_
      rintro v3 Γ2 _ - ⟨hle2, him, rfl⟩
      refine dz_ ?_
      refine WL.call rfl Tryz.call10 rfl rfl (by exact (spanned_ok (g11.mono hle2 fun _ _ h => h.mono hle2) (g21.mono hle2 fun _ _ h => h.mono hle2) him hok)) ?_
      rintro _ Γ3 _ hle3 ⟨sc, vf, rfl, hS, hF, rfl⟩
      obtain ⟨x1, n1, c1, x2, n2, c2, x3, n3, c3, x4, n4, c4, x5, n5, c5, x6, n6, c6, rfl⟩ := SecR.shape hS
      have hle12 := hle2.trans hle3
      refine dz_ ?_
      refine gz_ ?_
      exact WE.mid ⟨b7, _, vf, hle12, rfl, rfl, hS, hF⟩ sr_ sn_
  rintro R' Γ2 H' ⟨b9, cs, vf, hle2, rfl, rfl, hS, hF⟩
  obtain ⟨x1, n1, c1, x2, n2, c2, x3, n3, c3, x4, n4, c4, x5, n5, c5, x6, n6, c6, ecs⟩ := SecR.shape hS
  injection ecs with ecs
  have ecs2 := congrArg Array.toList ecs
  simp only [] at ecs2
  subst ecs2
  have hle12 := hle1.trans hle2
  rcases hkk with ⟨rfl, hno⟩ | ⟨k, xs, rfl, hk, hxs, hcov, hone⟩
  · refine gz_ ?_
    refine WL.call rfl Tryz.call17 rfl rfl (by exact (seekPCn_spd (hG.mono hle12) (hE.mono hle12) hok hR hS fun j x hx => hno j x (List.getElem?_eq_some_iff.1 hx).1 hx)) ?_
    rintro _ Γ3 _ hle3 ⟨rfl, rfl⟩
    refine gz_ ?_
    (refine WL.alloc tab_ok rfl rfl ?_; intro b14)
    refine gz_ ?_
    exact end_1 rfl rfl (hle12.trans hle3) (by simp)
  · obtain ⟨u0, hu0⟩ : ∃ u, us[k]? = some u := ⟨_, List.getElem?_eq_getElem (by omega)⟩
    have hou := (hok.each k xs u0 hxs hu0).2.2.2.2
    have hn0 := hou.n0
    have hn1 := hou.n1
    obtain ⟨bf, oF, cf, be, oe, ce, rfl, hc1, hce, cellsW, hAW, hLW⟩ := found_w hok hF hxs hu0
    refine gz_ ?_
    obtain ⟨N, hN⟩ : ∃ N : Nat, u0.nods.length = N + 1 := ⟨u0.nods.length - 1, by omega⟩
    have hN1 : u0.nods.length - 1 = N := by omega
    have hw1 : IntKind.i64.wrap (((u0.nods.length : Nat) : Int) - 1) = (N : Int) := by rw [w_i64 (by omega) (by omega)]; omega
    refine WC.cutM (fun R' Γ' H' => ∃ b18 cE vo, Γ2.le Γ' ∧ R' = [(17, .slice (some ⟨be, oe, none⟩) u0.nods.length ce), (18, .pointer (some ⟨b18, 0, none⟩)), (19, vo), (20, .int .i64 0)] ∧ H' = (b18, cel cE 45) :: H ∧
       EnC Γ' (tE l.big (mkU l sp us) k (uniS l xs (bgn l + (lstsT l (sp.take k)).length) u0) 0) cE ∧ Arr Γ' (AnC Γ') vo (((List.range u0.nods.length).map (tE l.big (mkU l sp us) k (uniS l xs (bgn l + (lstsT l (sp.take k)).length) u0))).drop 1)) ?_ ?_
    · refine WC.draw 14 (.take 0 (.take 1 (.take 2 (.take 3 (.take 4 (.two 5 11 (.two 6 11 (.take 7 (.take 8 (.take 9 (.take 10 (.one 11 (.one 12 (.one 13 (.one 14 .done)))))))) (.one 6 (.take 7 (.take 8 (.take 9 (.take 10 (.one 12 (.one 13 (.one 14 .done))))))))) (.one 5 (.one 6 (.take 7 (.take 8 (.take 9 (.take 10 (.one 12 (.one 13 (.one 14 .done))))))))))))))) ((b9, _) :: []) mixed (by (repeat (first | exact trivial | refine ⟨⟨_, pk_⟩, ?_⟩ | exact subH_self _ | apply subH_cons)); (first | done | fail)) (by decide +kernel) ?_
      refine dz_ ?_
      rw [hw1]
      refine WD.two rfl rfl ?_ ?_
      · refine (show WL _ _ _ _ _ [⟨some 79, .makeSlice 69 (.tmp 78) (.tmp 78), 69, _, _, none⟩] _ _ _ from ?_)
        (refine WL.make tab_ok rfl rfl rfl rfl rfl rfl rfl rfl (by omega) (by omega) (by omega) rfl ?_; intro bm)
        have how : Ow 2 (.slice (some ⟨bm, 0, none⟩) ((N : Nat) : Int).toNat ((N : Nat) : Int).toNat) ((N : Nat) : Int).toNat (reps ((N : Nat) : Int).toNat [.int .i64 0, .int .i64 0]) [(bm, cel (reps ((N : Nat) : Int).toNat [.int .i64 0, .int .i64 0] ++ []) 111)] :=
          Ow.row (Nat.le_refl _) (by rw [reps_length]; rfl) (by simp [reps_length]) (.inl (Nat.le_refl _))
        rw [List.append_nil] at how
        refine WL.keep how (by ((repeat (first | apply Tk.one | apply Tk.skip | apply Tk.over)); (first | done | fail))) (fun Γ3 hle3 him => ?_)
        rw [Int.toNat_natCast] at him
        refine dx_ ?_
        refine WD.two rfl rfl ?_ ?_
        · refine WL.call rfl Tryz.call17 rfl rfl (by exact (seekPC_spd (hG.mono (hle12.trans hle3)) (hE.mono (hle12.trans hle3)) hok hR (secR_mono hle3 hS) hxs hu0 (by rw [hN1]; exact im_st him) hcov (fun j x hx hc => hone j x (List.getElem?_eq_some_iff.1 hx).1 hx hc))) ?_
          rintro _ Γ4 _ hle4 ⟨cE, vo, rfl, hC, hAn, rfl⟩
          have hle34 := hle3.trans hle4
          have hC' := hC
          obtain ⟨vfE, rfl, afE, cfE, clE, rfl, -, -, -⟩ := hC'
          refine dx_ ?_
          (refine WL.alloc tab_ok rfl rfl ?_; intro b18)
          refine dx_ ?_
          refine gz_ ?_
          exact WE.mid ⟨b18, _, vo, hle3.trans hle4, rfl, rfl, hC, hAn⟩ sr_ sn_
        · (refine WL.alloc tab_ok rfl rfl ?_; intro b18)
          refine dx_ ?_
          refine WL.call rfl Tryz.call17 rfl rfl (by exact (seekPC_spd (hG.mono (hle12.trans hle3)) (hE.mono (hle12.trans hle3)) hok hR (secR_mono hle3 hS) hxs hu0 (by rw [hN1]; exact im_st him) hcov (fun j x hx hc => hone j x (List.getElem?_eq_some_iff.1 hx).1 hx hc))) ?_
          rintro _ Γ4 _ hle4 ⟨cE, vo, rfl, hC, hAn, rfl⟩
          have hle34 := hle3.trans hle4
          have hC' := hC
          obtain ⟨vfE, rfl, afE, cfE, clE, rfl, -, -, -⟩ := hC'
          refine dx_ ?_
          refine gz_ ?_
          exact WE.mid ⟨b18, _, vo, hle3.trans hle4, rfl, rfl, hC, hAn⟩ sr_ sn_
      · (refine WL.alloc tab_ok rfl rfl ?_; intro b18)
        refine dx_ ?_
        refine (show WL _ _ _ _ _ [⟨some 79, .makeSlice 69 (.tmp 78) (.tmp 78), 69, _, _, none⟩] _ _ _ from ?_)
        (refine WL.make tab_ok rfl rfl rfl rfl rfl rfl rfl rfl (by omega) (by omega) (by omega) rfl ?_; intro bm)
        have how : Ow 2 (.slice (some ⟨bm, 0, none⟩) ((N : Nat) : Int).toNat ((N : Nat) : Int).toNat) ((N : Nat) : Int).toNat (reps ((N : Nat) : Int).toNat [.int .i64 0, .int .i64 0]) [(bm, cel (reps ((N : Nat) : Int).toNat [.int .i64 0, .int .i64 0] ++ []) 111)] :=
          Ow.row (Nat.le_refl _) (by rw [reps_length]; rfl) (by simp [reps_length]) (.inl (Nat.le_refl _))
        rw [List.append_nil] at how
        refine WL.keep how (by ((repeat (first | apply Tk.one | apply Tk.skip | apply Tk.over)); (first | done | fail))) (fun Γ3 hle3 him => ?_)
        rw [Int.toNat_natCast] at him
        refine dx_ ?_
        refine WL.call rfl Tryz.call17 rfl rfl (by exact (seekPC_spd (hG.mono (hle12.trans hle3)) (hE.mono (hle12.trans hle3)) hok hR (secR_mono hle3 hS) hxs hu0 (by rw [hN1]; exact im_st him) hcov (fun j x hx hc => hone j x (List.getElem?_eq_some_iff.1 hx).1 hx hc))) ?_
        rintro _ Γ4 _ hle4 ⟨cE, vo, rfl, hC, hAn, rfl⟩
        have hle34 := hle3.trans hle4
        have hC' := hC
        obtain ⟨vfE, rfl, afE, cfE, clE, rfl, -, -, -⟩ := hC'
        refine dx_ ?_
        refine gz_ ?_
        exact WE.mid ⟨b18, _, vo, hle3.trans hle4, rfl, rfl, hC, hAn⟩ sr_ sn_
    rintro R' Γ3 H' ⟨b18, cE, vo, hle3, rfl, rfl, hC, hAn⟩
    obtain ⟨x', hx', hm⟩ := mkU_get hok hu0
    rw [hxs] at hx'; injection hx' with hx'; subst hx'
    have hUk := hR.uni _ (List.mem_of_getElem? hm)
    have hnl : (uniS l xs (bgn l + (lstsT l (sp.take k)).length) u0).nods.length = u0.nods.length := nodsS_length _ _ _ _
    have hbase : baseU l.big (mkU l sp us) k < 2147483648 := by
      have h1 := pusB_split l.big (pusU l.big 0 0 0 0 (mkU l sp us)) k
      have h2 := hR.inf
      rw [baseU_eq]; omega
    have hsame : ∀ (j : Nat), j < u0.nods.length → Same (tE l.big (mkU l sp us) k (uniS l xs (bgn l + (lstsT l (sp.take k)).length) u0) j) (wE l.big (mkU l sp us) k (uniS l xs (bgn l + (lstsT l (sp.take k)).length) u0) j) ∧
        (tE l.big (mkU l sp us) k (uniS l xs (bgn l + (lstsT l (sp.take k)).length) u0) j).fds.length ≤ 2147483647 := fun j hj => by
      obtain ⟨y, hy⟩ : ∃ y, (uniS l xs (bgn l + (lstsT l (sp.take k)).length) u0).nods[j]? = some y := ⟨_, List.getElem?_eq_getElem (by rw [hnl]; exact hj)⟩
      refine ⟨same_at hUk hm hbase hy fun h17 a ha => ?_, tE_few hUk hy⟩
      rcases Nat.eq_zero_or_pos j with h0 | h0
      · subst h0
        obtain ⟨n0, -, hn0'⟩ := top_nod (l := l) (x := xs) (k := bgn l + (lstsT l (sp.take k)).length) hou.n0
        rw [hn0'] at hy; injection hy with hy; subst hy
        exact absurd rfl h17
      · have hy' : u0.nods[j]? = some y := by
          rw [← nodsS_at2 (l := l) (x := xs) (k := bgn l + (lstsT l (sp.take k)).length) h0]; exact hy
        obtain ⟨-, e1, e2, e3, -⟩ := hok.each k xs u0 hxs hu0
        have := ((hou.nod y (List.mem_of_getElem? hy')).att a ha).1
        rw [e1, e2, e3] at this
        exact this
    have hWa : Arr Γ2 (EnC Γ2) (.slice (some ⟨be, oe, none⟩) u0.nods.length ce) ((List.range u0.nods.length).map (wE l.big (mkU l sp us) k (uniS l xs (bgn l + (lstsT l (sp.take k)).length) u0))) :=
      ⟨_, _, cellsW, by rw [List.length_map, List.length_range], by rw [List.length_map, List.length_range]; exact hce, hAW, hLW⟩
    have hWa3 := hWa.mono hle3 fun _ _ h => EnC.mono hle3 h
    obtain ⟨aw, cw, cellsW3, ew, hcw, hAW3, hLW3⟩ := hWa3
    injection ew with ew1 ew2 ew3
    subst ew1 ew3
    generalize tE l.big (mkU l sp us) k (uniS l xs (bgn l + (lstsT l (sp.take k)).length) u0) = T at hC hAn hsame
    generalize wE l.big (mkU l sp us) k (uniS l xs (bgn l + (lstsT l (sp.take k)).length) u0) = W at hLW hLW3 hsame
    have hget0 : ((List.range u0.nods.length).map W)[0]? = some (W 0) := by
      rw [List.getElem?_map, List.getElem?_range hn0]; rfl
    obtain ⟨bw, ow, c0, ew4, hE0, hc0⟩ := elemA hAW3 hLW3 (fun _ _ h => h.len) (w := 4) (by decide) hget0
    injection ew4 with ew4
    injection ew4 with ew5 ew6
    subst ew5 ew6
    have hE0' := hE0
    obtain ⟨vf0, rfl, af0, cf0, cl0, rfl, -, -, -⟩ := hE0'
    have hC' := hC
    obtain ⟨vfE, rfl, afE, cfE, clE, rfl, -, -, -⟩ := hC'
    have hAn' := hAn
    obtain ⟨av, cv, clv, rfl, -, -, -⟩ := hAn'
    obtain ⟨hS0, hf0⟩ := hsame 0 hn0
    refine gz_ ?_
    refine WC.draw 16 (.take 0 (.take 1 (.take 2 (.take 3 (.take 4 (.take 5 (.take 6 (.one 7 (.take 8 (.take 9 (.take 10 (.take 11 (.one 12 (.one 13 (.take 14 (.one 15 .done)))))))))))))))) ((b18, _) :: []) mixed (by (repeat (first | exact trivial | refine ⟨⟨_, pk_⟩, ?_⟩ | exact subH_self _ | apply subH_cons)); (first | done | fail)) (by decide +kernel) ?_
    refine dz_ ?_
    refine WL.call rfl Tryz.call18 rfl rfl (by exact (sameEntry_ok hC hE0 hS0 hf0)) ?_
    rintro _ _ _ - ⟨rfl, rfl, rfl⟩
    refine dz_ ?_
    have hW1 := arr_tail hAW3 hLW3 (cap := ce) (by rw [List.length_map, List.length_range]; exact hce) (by rw [List.length_map, List.length_range]; exact hn0)
    rw [List.length_map, List.length_range] at hW1
    refine WL.call rfl Tryz.call19 rfl rfl (by exact (heard_ok hAn hW1 (by rw [List.length_drop, List.length_drop, List.length_map, List.length_map]) (by rw [List.length_drop, List.length_map, List.length_range]; omega) (tails_same hsame))) ?_
    rintro _ _ _ - ⟨rfl, rfl, rfl⟩
    refine dz_ ?_
    refine gz_ ?_
    exact end_1 rfl rfl (hle12.trans hle3) rfl
end Go.Proofs.YtdplhbmoidepgaaGreatDoor
namespace Go.Proofs.YtdplhbmoidepgaaGreatDoor
open Go Go.Sl Go.ChangeShapes Go.WideShapes Go.ChangeMaps Go.WideElems
set_option maxRecDepth 100000
set_option maxHeartbeats 4000000

theorem gEof : Tryz.prog.globalNamed "io.EOF" = some 0 := by kernel_rfl
theorem gUnk : Tryz.prog.globalNamed "loop.example/pub-g03041/pub/dwarf.ErrUnknownPC" = some 1 := by kernel_rfl
theorem starErr : "*" ++ "errors.errorString" = "*errors.errorString" := by decide
theorem rowErr (u : TypeId) (h : Tryz.prog.typeName? 3 u = some "*errors.errorString") : u = 232 :=
  typeName_ptr_named (nm := "errors.errorString") (by rw [starErr]; kernel_rfl) (by kernel_rfl) (by decide) u (by rw [starErr]; exact h)
theorem sent_of_laid {W : World} (h : laidMetH Tryz.prog laidAll W) : ∃ a1, SentR (envW W) a1 := by
  rw [MakeChecks.laidMetH_plain _ _ _ (by kernel_rfl)] at h
  obtain ⟨ps, ⟨g0, t0, cs0, f0, p0, q0, hg0, ht0, hv0, hd0, ⟨g1, t1, cs1, f1, p1, q1, hg1, ht1, hv1, hd1, ⟨g2, t2, cs2, f2, p2, q2, hg2, ht2, hv2, hd2, ⟨g3, t3, cs3, f3, p3, q3, hg3, ht3, hv3, hd3, ⟨g4, t4, cs4, f4, p4, q4, hg4, ht4, hv4, hd4, ⟨g5, t5, cs5, f5, p5, q5, hg5, ht5, hv5, hd5, ⟨g6, t6, cs6, f6, p6, q6, hg6, ht6, hv6, hd6, hq6, e6⟩, e5⟩, e4⟩, e3⟩, e2⟩, e1⟩, e0⟩, -, hrows⟩ := h
  clear hd0 hd1 hd2 hd4 hd5 hv0 hv1 hv2 hv4 hv5 hg0 hg1 hg2 hg4 hg5 ht0 ht1 ht2 ht4 ht5
  obtain rfl := Option.some.inj (gEof.symm.trans hg3)
  obtain rfl := Option.some.inj (gUnk.symm.trans hg6)
  obtain rfl := Option.some.inj ((show (Tryz.prog.globals[0]?).map (·.type) = some 91 by kernel_rfl).symm.trans ht3)
  obtain rfl := Option.some.inj ((show (Tryz.prog.globals[1]?).map (·.type) = some 91 by kernel_rfl).symm.trans ht6)
  subst e6
  subst e5
  subst e4
  subst e3
  subst e2
  subst e1
  subst e0
  unfold Rows.laid_io_EOF at hd3
  unfold Rows.laid_loop_example_pub_g03041_pub_dwarf_ErrUnknownPC at hd6
  obtain ⟨l3⟩ := cs3
  obtain ⟨l6⟩ := cs6
  have ok3 : ∀ u v, l3 = [.iface u v] → Value.okWide Tryz.prog W .any 0 u v := fun u v e => by
    subst e
    exact (hrows 0 0 (by simp [MemPlace.row])).2 u v (by simpa using World.var?_cell hg3 hv3 0)
  have ok6 : ∀ u v, l6 = [.iface u v] → Value.okWide Tryz.prog W .any 0 u v := fun u v e => by
    subst e
    exact (hrows 1 0 (by simp [MemPlace.row])).2 u v (by simpa using World.var?_cell hg6 hv6 0)
  obtain ⟨a0, s0, rfl, hc0, hs0, -, rfl⟩ := errorString_of_trod Tryz.underlying91 rowErr Tryz.underlying232 Tryz.underlying234 rfl rfl Tryz.underlying9 (by kernel_rfl) (by kernel_rfl) hd3 ok3
  obtain ⟨a1, s1, rfl, hc1, hs1, -, rfl⟩ := errorString_of_trod Tryz.underlying91 rowErr Tryz.underlying232 Tryz.underlying234 rfl rfl Tryz.underlying9 (by kernel_rfl) (by kernel_rfl) hd6 ok6
  obtain ⟨c0, t0, hb0⟩ := (hrows a0.block a0.off (by simp [MemPlace.row])).1
  obtain ⟨c1, t1, hb1⟩ := (hrows a1.block a1.off (by simp [MemPlace.row])).1
  have hv3c := World.var?_cell hg3 hv3 0
  have hv6c := World.var?_cell hg6 hv6 0
  refine ⟨a1, a0, c0, c1, t0, t1, (envW_cell hv3c).2, (envW_cell hv6c).2, hb0, hb1, fun e => ?_⟩
  subst e
  rw [hc0] at hc1
  injection hc1 with hc1
  injection hc1 with hc1
  rw [hc1, hs1] at hs0
  cases hs0
end Go.Proofs.YtdplhbmoidepgaaGreatDoor
