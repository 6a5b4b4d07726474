/- SeekPC of the thin package. What is told of entries, and that the package tells it so: the plain law. All entries of a unit, as the package tells them and as the specification does: the plain law. The first entries of the units that Spanned makes, and SeekPC of the thin package on them. SeekPC of the thin package on what Spanned makes. -/
import Derived.Test.YtdplhbmoidepgaaGreatDoorS1
import Derived.Test.YtdplhbmoidepgaaGreatDoorQ2
import Derived.Test.YtdplhbmoidepgaaGreatDoorH4
namespace Go.Proofs.YtdplhbmoidepgaaGreatDoor
open Go Go.Sl
set_option maxRecDepth 10000
set_option maxHeartbeats 40000000

/-- A text at a place begins with an entry that is told so. -/
def NodT1 (c : Ctx) (u : PU) (off : Nat) (l : List UInt8) (x : En) (off' : Nat) (l' : List UInt8) : Prop :=
  (l = ulebL 0 ++ l' ∧ x = ⟨0, 0, false, []⟩ ∧ off' = off + 1) ∨
  (∃ a its, l = ulebL a.code ++ (itexts its ++ l') ∧ Die c u.abs a its ∧ x = ⟨off, a.tag, a.ch, its.map (fdI u.vers)⟩ ∧ off' = off + (ulebL a.code).length + (itexts its).length ∧
    its.length < 1048576 ∧ (∀ x ∈ its, ∀ l, x.fv = .bs l → l.length < 2147483648) ∧ (∀ x ∈ its, ∀ n, x.fv = .o n → n < 4294967296) ∧ a.tag < 4294967296)
/-- A text at a place begins with entries that are told so. -/
inductive Ents (c : Ctx) (u : PU) : Nat → List UInt8 → List En → Prop where
  | nil {off : Nat} {l : List UInt8} : Ents c u off l []
  | cons {off off' : Nat} {l l' : List UInt8} {x : En} {xs : List En} : NodT1 c u off l x off' l' → Ents c u off' l' xs → Ents c u off l (x :: xs)
theorem NodT1.size {c : Ctx} {u : PU} {off off' : Nat} {l l' : List UInt8} {x : En} (h : NodT1 c u off l x off' l') : off + l.length = off' + l'.length := by
  rcases h with ⟨rfl, -, rfl⟩ | ⟨a, its, rfl, -, -, rfl, -⟩
  · rw [List.length_append, ulebL_small (by decide)]; simp only [List.length_cons, List.length_nil]; omega
  · rw [List.length_append, List.length_append]; omega
theorem read_ok {Γ : Env} {H F : List Blk} {pr pd pu k off off' : Nat} {big : Bool} {sr lin : List UInt8} {us : List PU} {u : PU} {x : En} {l l' : List UInt8} {o : Obj}
   (hG : Glob Γ) (hp : Pick H pr o F) (hA : RdAt Γ pr pd pu k big off l o) (hN : NodT1 (uctx big sr lin (pusB big (us.take k)).length u) u off l x off' l')
   (hR : UnR Γ F big pd pu us) (hu : us[k]? = some u) (hS : Secs Γ F pd (uctx big sr lin (pusB big (us.take k)).length u)) (hz : u.size = 4 ∨ u.size = 8)
   (hdist : u.abs.Pairwise (fun a b => a.code ≠ b.code)) (hsz : off + l.length ≤ 2147483648) :
   Spc Tryz.prog 38 #[.pointer (some ⟨pr, 0, none⟩), .agg #[.int .i64 0, .int .i64 0]] Γ H (fun r Γ' H' => ∃ c o', r = .agg c.toArray ∧ AnC Γ' x c ∧ RdAt Γ' pr pd pu k big off' l' o' ∧ H' = (pr, o') :: F) := by
  have hs := hN.size
  rcases hN with ⟨rfl, rfl, rfl⟩ | ⟨a, its, rfl, hD, rfl, rfl, h1, h2, h3, h4⟩
  · exact readNul_ok hp hA hR hu (by omega)
  · exact readDie_ok hG hp hA hR hu hS hz hdist hD (by rw [List.length_append, List.length_append] at hsz; omega) h1 h2 h3 h4
theorem AnC.shape {Γ : Env} {x : En} {c : List Value} (h : AnC Γ x c) : ∃ z1 z2 b a n k, c = [.bool true, .int .i64 z1, .int .i64 z2, .bool b, .slice a n k, .int .i64 0, .int .i64 0] := by
  obtain ⟨ce, ⟨vf, rfl, a, cap, cells, rfl, -⟩, rfl⟩ := h; exact ⟨_, _, _, _, _, _, rfl⟩
theorem one_an (z1 z2 : Int) (b : Bool) (a : Option Addr) (n k : Nat) : ∀ y ∈ [Value.bool true, .int .i64 z1, .int .i64 z2, .bool b, .slice a n k, .int .i64 0, .int .i64 0], y.oneCell' = true := by
  intro y hy; simp only [List.mem_cons, List.not_mem_nil, or_false] at hy
  rcases hy with rfl | rfl | rfl | rfl | rfl | rfl | rfl <;> rfl
theorem UnR.mono {Γ Γ' : Env} (hle : Γ.le Γ') {F : List Blk} {big : Bool} {pd pu : Nat} {us : List PU} (h : UnR Γ F big pd pu us) : UnR Γ' F big pd pu us := by
  obtain ⟨h1, cs, F2, h2, h3⟩ := h
  exact ⟨h1.mono hle, cs, F2, h2, h3.mono hle⟩
theorem Secs.app {Γ : Env} {F G : List Blk} {pd : Nat} {c : Ctx} (h : Secs Γ F pd c) : Secs Γ (G ++ F) pd c := by
  obtain ⟨⟨v, h1, h2⟩, ⟨w, h3, h4⟩, h5, h6, h7⟩ := h
  exact ⟨⟨v, h1.app, h2⟩, ⟨w, h3.app, h4⟩, h5.app, h6, h7⟩
/-- Steps of nothing. -/
def StC (_ : Nat) (c : List Value) : Prop := c = [.int .i64 0, .int .i64 0]
theorem StC.len {i : Nat} {c : List Value} (h : StC i c) : c.length = 2 := by rw [h]; rfl
theorem implSeekPC_ok {Γ : Env} {H : List Blk} {l : Lay} {v vs : Value} {ab ln rg sr lin rt : List UInt8} {rl : Option (List UInt8)} {us : List PU} {u0 u : PU} {k pc : Nat} {R : Nat → List (Nat × Nat)} {A : Nat → Abb} {I : Nat → List Itm} {Po : Nat → List UInt8} {xs : List En} {a1 : Addr}
   (hG : Glob Γ) (hE : SentR Γ a1) (hv : SecR Γ v ab (pusB l.big us) ln rg sr lin rl) (hst : Arr Γ StC vs (List.range xs.length)) (hxl : xs.length ≤ 1048576)
   (hok : ∀ u ∈ us, OkPU ab u) (hdis : us.Pairwise (fun a b => a.abo ≠ b.abo)) (hsa : ab.length < 2147483648) (hall : (pusB l.big us).length < 2147483648) (hn : us.length ≤ 2147483647)
   (hln : ln.length < 2147483648) (hrg : rg.length < 2147483648) (hsr : sr.length < 2147483648) (hlin : lin.length < 2147483648) (hrl : ∀ r, rl = some r → r.length < 2147483648)
   (hu0 : us[0]? = some u0) (hT0 : PTop (uctx l.big sr lin 0 u0) u0) (hzl : l.size = 4 ∨ l.size = 8)
   (hrt : (4 < l.vers ∧ rl = some rt ∧ rt ≠ []) ∨ (l.vers ≤ 4 ∧ rg = rt))
   (hus : ∀ (i : Nat) (u : PU), us[i]? = some u → FstR l sr lin rt (pusB l.big (us.take i)).length u (R i) (A i) (I i) (Po i))
   (hu : us[k]? = some u) (hcov : covR (R k) pc = true) (hone : ∀ j, j < us.length → covR (R j) pc = true → j = k)
   (hI : (I k).length < 1048576 ∧ (∀ x ∈ I k, ∀ l, x.fv = .bs l → l.length < 2147483648) ∧ (∀ x ∈ I k, ∀ n, x.fv = .o n → n < 4294967296))
   (hents : Ents (uctx l.big sr lin (pusB l.big (us.take k)).length u) u (offU l.big us k + (ulebL (A k).code).length + (itexts (I k)).length) (Po k) xs) :
   Spc Tryz.prog 17 #[v, .int .u64 (pc : Int), vs] Γ H (fun r Γ' H' => ∃ ce vo, r = .tuple #[.agg ce.toArray, vo, .int .i64 0] ∧ EnC Γ' ⟨offU l.big us k, 17, (A k).ch, (I k).map (fdI u.vers)⟩ ce ∧ Arr Γ' (AnC Γ') vo xs ∧ H' = H) := by
  have hn0 : 0 < us.length := (List.getElem?_eq_some_iff.1 hu0).1
  have hrtl : rt.length < 2147483648 := by
    rcases hrt with ⟨-, h, -⟩ | ⟨-, h⟩
    · exact hrl _ h
    · rw [← h]; exact hrg
  have hv' := hv
  obtain ⟨vA, vI, vL, vR, vS, vD, rfl, -⟩ := hv'.ex
  have hst0 := hst
  obtain ⟨aS, capS, cellsS, rfl, hcapS, hAs, hLs⟩ := hst
  rw [List.length_range] at hcapS ⊢
  have hdi0 := (hok u0 (List.mem_of_getElem? hu0)).dist
  obtain ⟨hz8, a0, its0, l0, hb0, hD0⟩ := hT0
  have hsp := pusB_split (us := us) l.big 0
  have hdr0 := pusB_drop (big := l.big) hu0
  refine Spc.body3 Tryz.func17 rfl Tryz.ntmps17 rfl ?_
  refine WC.seq ?_
  refine WC.region ?_
  (refine WL.box rfl spi_ rfl ?_; intro b3)
  (refine WL.alloc tab_ok rfl rfl ?_; intro b6)
  refine gz_ ?_
  refine WL.call rfl Tryz.call31 rfl rfl (by exact (open_ok hG hv hok hdis hsa hall (by omega) hn0 hln hrg hsr hlin hrl)) ?_
  rintro _ Γ1 _ hle1 ⟨pd, pu, rc, r2, r3, cs, dA, dI, dL, dR, dS, vl, vr, rfl, hcs, hR, hS, hl, hr, rfl⟩
  obtain ⟨p, c0, q, rfl, hp0, ⟨d, r, es, cm, u5, rfl, hd, him, hes⟩, hback⟩ := hcs.get hu0
  have hp1 : p = [] := List.eq_nil_of_length_eq_zero (by omega)
  subst hp1
  rw [hdr0, List.length_append, puB_length] at hsp
  have hblen : u0.body.length = (ulebL a0.code).length + (itexts its0).length + l0.length := by rw [hb0, List.length_append, List.length_append]; omega
  have hd1 := hd
  rw [hb0] at hd1
  have e0 : 0 + (pusB l.big (us.take 0)).length = 0 := rfl
  rw [e0]
  rw [e0] at hback
  refine gz_ ?_
  refine WL.call rfl Tryz.call33 rfl rfl (by exact (reader_ok (pu := pu) (c := uctx l.big sr lin 0 u0) (off1 := 0 + lsz u0.wide + hsz u0) (d := d) (r := r) (u5 := u5) (vers := u0.vers) (q := q) (n := us.length) (hG.mono hle1) pk_ ⟨⟨dS, .inr ⟨_, _, _, _, pk_, rfl⟩, hS⟩, ⟨vl, .inr ⟨_, _, _, _, pk_, rfl⟩, hl⟩, .inr ⟨_, _, _, _, pk_, rfl⟩, hsr, hlin⟩ (.inr ⟨_, _, _, _, pk_, rfl⟩) hn0 ⟨rfl, hz8, hdi0, ⟨es, cm, him, hes⟩, a0, its0, l0, hd1, hD0, by omega⟩)) ?_
  rintro _ Γ2 _ hle2 ⟨pr, u5', rfl, rfl⟩
  refine gz_ ?_
  have hq1 : UQs Γ2 l.big 0 us ([] ++ (uqc 0 (0 + lsz u0.wide + hsz u0) d r u5' u0.size u0.vers u0.wide [] ++ q)) := hback hle2 ⟨d, r, es, cm, u5', rfl, hd.mono hle2, hle2.imm _ _ him, hes.mono hle2⟩
  have hle12 := hle1.trans hle2
  have hE2 := hE.mono hle12
  have hev : Γ2.cell 1 0 = some (.iface 232 (.pointer (some a1))) := by obtain ⟨_, _, _, _, _, _, h, _⟩ := hE2; exact h
  refine WL.call rfl Tryz.call37 rfl rfl (by exact (seekPC_ok (R := R) (A := A) (I := I) (Po := Po) (ux := u) (bx := 0) (vR := dR) (vRl := vr) (hG.mono hle12) hev Pick.here ⟨_, _, _, _, _, _, _, _, _, _, _, _, rfl⟩ Pick.here hq1 ⟨⟨dS, .inr ⟨_, _, _, _, pk_, rfl⟩, hS.mono hle2⟩, ⟨vl, .inr ⟨_, _, _, _, pk_, rfl⟩, hl.mono hle2⟩, .inr ⟨_, _, _, _, pk_, rfl⟩, hsr, hlin⟩ (.inr ⟨_, _, _, _, pk_, rfl⟩) hn hall hzl (.inr ⟨_, _, _, _, pk_, rfl⟩) (.inr ⟨_, _, _, _, pk_, rfl⟩) hrtl (by
      rcases hrt with ⟨h1, h2, h3⟩ | ⟨h1, h2⟩
      · subst h2; exact .inl ⟨h1, Byt.mono hle2 hr, h3⟩
      · subst h2; exact .inr ⟨h1, hR.mono hle2⟩) hus)) ?_
  rintro _ Γ3 _ hle3 (⟨k', u', pe, o', cs', hu', hcov', hfst, rfl, hEe, hA, hq3, rfl⟩ | ⟨hno, rfl, -⟩)
  case inr =>
    have := hno k (List.getElem?_eq_some_iff.1 hu).1
    rw [hcov] at this; cases this
  have hkk : k' = k := hone k' (List.getElem?_eq_some_iff.1 hu').1 hcov'
  subst hkk
  rw [hu] at hu'; injection hu' with hu'; subst hu'
  have hF := hus k' u hu
  have hle13 := hle12.trans hle3
  refine gz_ ?_
  have hbU : UnR Γ3 ((pu, cel cs' 178) :: (pd, cel (dcs dA dI dL dR dS nls vl nls vr rc r2 r3 l.big l.big (.slice (some ⟨pu, 0, none⟩) us.length us.length)) 173) :: (b6, cel [.int .i64 0, .int .i64 0, .bool false, nls] 45) :: (b3, cel [vA, vI, vL, vR, vS, vD, nls] 32) :: H) l.big pd pu us :=
    ⟨.inr ⟨_, _, _, _, pk_, rfl⟩, cs', _, Pick.here, hq3⟩
  have hbS : Secs Γ3 ((pu, cel cs' 178) :: (pd, cel (dcs dA dI dL dR dS nls vl nls vr rc r2 r3 l.big l.big (.slice (some ⟨pu, 0, none⟩) us.length us.length)) 173) :: (b6, cel [.int .i64 0, .int .i64 0, .bool false, nls] 45) :: (b3, cel [vA, vI, vL, vR, vS, vD, nls] 32) :: H) pd (uctx l.big sr lin (pusB l.big (us.take k')).length u) :=
    ⟨⟨dS, .inr ⟨_, _, _, _, pk_, rfl⟩, (hS.mono hle2).mono hle3⟩, ⟨vl, .inr ⟨_, _, _, _, pk_, rfl⟩, (hl.mono hle2).mono hle3⟩, .inr ⟨_, _, _, _, pk_, rfl⟩, hsr, hlin⟩
  have hstep := offU_step (big := l.big) hu
  have hmono := pusB_take_mono (big := l.big) (us := us) (i := k' + 1) (j := us.length) (by have := (List.getElem?_eq_some_iff.1 hu).1; omega) (Nat.le_refl _)
  rw [List.take_length] at hmono
  have hbl : u.body.length = (ulebL (A k').code).length + (itexts (I k')).length + (Po k').length := by rw [hF.body, List.length_append, List.length_append]; omega
  have hzu : u.size = 4 ∨ u.size = 8 := by have := hF.size; omega
  generalize hBL : ((pu, cel cs' 178) :: (pd, cel (dcs dA dI dL dR dS nls vl nls vr rc r2 r3 l.big l.big (.slice (some ⟨pu, 0, none⟩) us.length us.length)) 173) :: (b6, cel [.int .i64 0, .int .i64 0, .bool false, nls] 45) :: (b3, cel [vA, vI, vL, vR, vS, vD, nls] 32) :: H) = BL at hbU hbS ⊢
  refine WC.loopE (fun m R' Γ' H' => ∃ i o off lt v out Hs, R' = [(6, .pointer (some ⟨b6, 0, none⟩)), (11, .pointer (some ⟨pr, 0, none⟩)), (12, .pointer (some ⟨pe, 0, none⟩)), (13, v), (43, .slice aS xs.length capS), (44, .int .i64 (xs.length : Int)), (45, .int .i64 ((i : Nat) : Int))] ∧ Γ3.le Γ' ∧
      H' = (pr, o) :: (Hs ++ BL) ∧ m = xs.length - i ∧ i ≤ xs.length ∧ RdAt Γ' pr pd pu k' l.big off lt o ∧ Ents (uctx l.big sr lin (pusB l.big (us.take k')).length u) u off lt (xs.drop i) ∧ off + lt.length ≤ 2147483648 ∧
      Ow 7 v i out Hs ∧ LisC (AnC Γ') (xs.take i) out)
    ⟨0, o', _, Po k', _, [], [], rfl, Env.le.rfl' _, rfl, rfl, Nat.zero_le _, hA, hents, by omega, Ow.nil, rfl⟩ sr_ sn_ ?_
  rintro m R' Γ4 H' ⟨i, o, off, lt, v, out, Hs, rfl, hle4, rfl, rfl, hi, hAt, hEn, hof, how, hLa⟩
  rcases Nat.lt_or_ge i xs.length with hlt | hge
  case inr =>
    have ei : i = xs.length := by omega
    subst ei
    subst hBL
    rw [List.take_length] at hLa
    refine gz_ ?_
    refine WC.condF rfl (decide_eq_false (by omega)) ?_
    refine gz_ ?_
    refine WL.call rfl Tryz.call39 rfl rfl (by exact (entryOf_ok (hEe.mono hle4) hI.1 hI.2.1 hI.2.2 (fun x hx => by have := hF.die.low x hx; omega) (by omega) (by rw [hF.tag]; decide))) ?_
    rintro _ Γ5 _ hle5 ⟨ce, rfl, hC, rfl⟩
    have hC' := hC
    obtain ⟨vf, rfl, af, cf, cels, rfl, -, -, -⟩ := hC'
    refine gz_ ?_
    refine WE.keep how tk_ (fun Γ6 hle6 him => ?_)
    refine WE.drop (b := pr) pk_ ?_
    refine WE.drop (b := pu) pk_ ?_
    refine WE.drop (b := pd) pk_ ?_
    refine WE.drop (b := b3) pk_ ?_
    obtain ⟨av, cv, rfl, hcv, hAv⟩ := him
    rw [hF.tag] at hC
    refine end_ctt tab_ok rfl rfl rfl rfl rfl rfl pk_ rfl (((hle13.trans hle4).trans hle5).trans hle6) ⟨_, _, rfl, ?_, ⟨av, cv, out, rfl, hcv, hAv, hLa.imp fun _ _ h => (h.mono hle5).mono hle6⟩, rfl⟩
    rw [hF.tag]
    exact hC.mono hle6
  case inl =>
    obtain ⟨x, hx⟩ : ∃ x, xs[i]? = some x := ⟨_, List.getElem?_eq_getElem hlt⟩
    have hdr : xs.drop i = x :: xs.drop (i + 1) := by
      rw [List.drop_eq_getElem_cons hlt]
      rw [List.getElem?_eq_getElem hlt] at hx; injection hx with hx; rw [hx]
    rw [hdr] at hEn
    cases hEn with
    | @cons _ off2 _ lt2 _ _ hN hEn2 =>
    obtain ⟨bS, oS, dS', rfl, hPS, hcS⟩ := elemA hAs hLs (fun _ _ h => h.len) (w := 2) (by decide) (show (List.range xs.length)[i]? = some i by rw [List.getElem?_range hlt])
    unfold StC at hPS
    subst hPS
    have hcS4 : cellsAt (Γ4.cell bS) (oS + Int.toNat ((i : Nat) : Int) * 2) [.int .i64 0, .int .i64 0] := by
      have hm := (hle13.trans hle4)
      exact ⟨hm.cell hcS.1, hm.cell hcS.2.1, trivial⟩
    have hwi : IntKind.i64.wrap ((i : Int) + 1) = (i : Int) + 1 := w_i64 (by omega) (by omega)
    refine gz_ ?_
    refine WC.condT rfl (by first | rfl | exact decide_eq_true (by omega) | (simp; (first | done | fail)) | (simp; omega)) ?_
    refine gz_ ?_
    (refine WL.alloc tab_ok rfl rfl ?_; intro b15)
    refine gz_ ?_
    refine WL.call rfl Tryz.call38 rfl rfl (by exact (read_ok (us := us) (sr := sr) (lin := lin) (k := k') (hG.mono (hle13.trans hle4)) (Pick.there Pick.here) hAt hN (hbU.mono hle4).app.cons hu (hbS.mono hle4).app.cons hzu hF.dist hof)) ?_
    rintro _ Γ5 _ hle5 ⟨c, o2, rfl, hAn, hAt2, rfl⟩
    obtain ⟨z1, z2, bb, aa, nn, kk, rfl⟩ := AnC.shape hAn
    refine gz_ ?_
    (refine WL.lit tab_ok rfl rfl rfl rfl rfl rfl rfl spi_ rfl ?_; intro bl)
    refine gz_ ?_
    refine WL.append tab_ok rfl rfl rfl rfl rfl rfl rfl rfl how tk_ ((Ow.lit (s := 7) (b := bl) (k := 1) (l := [.bool true, .int .i64 z1, .int .i64 z2, .bool bb, .slice aa nn kk, .int .i64 0, .int .i64 0]) (T := 113) rfl).src tab_ok rfl (by ((repeat (first | apply Tk.one | apply Tk.skip | apply Tk.over)); (first | done | fail))) (one_an _ _ _ _ _ _)) (by omega) (by omega) (fun v2 Hs2 how2 => ?_)
    obtain ⟨a9, c9, rfl⟩ := Ow.shape how2
    refine gz_ ?_
    have htk : xs.take (i + 1) = xs.take i ++ [x] := by rw [List.take_add_one, hx]; rfl
    have hsz := hN.size
    refine WE.again ⟨i + 1, o2, off2, lt2, _, out ++ [.bool true, .int .i64 z1, .int .i64 z2, .bool bb, .slice aa nn kk, .int .i64 0, .int .i64 0], Hs2, rfl, hle4.trans hle5, rfl, rfl, hlt, hAt2, hEn2, by omega, how2, ?_⟩ (by omega) ⟨rfl, rfl, rfl, rfl, rfl, rfl, congrArg (fun z => some (Value.int .i64 z)) hwi, trivial⟩ sn_
    rw [htk]
    exact (hLa.imp fun _ _ h => h.mono hle5).append (LisC.one hAn)
theorem implSeekPCn_ok {Γ : Env} {H : List Blk} {l : Lay} {v : Value} {ab ln rg sr lin rt : List UInt8} {rl : Option (List UInt8)} {us : List PU} {u0 : PU} {pc : Nat} {R : Nat → List (Nat × Nat)} {A : Nat → Abb} {I : Nat → List Itm} {Po : Nat → List UInt8} {a1 : Addr}
   (hG : Glob Γ) (hE : SentR Γ a1) (hv : SecR Γ v ab (pusB l.big us) ln rg sr lin rl)
   (hok : ∀ u ∈ us, OkPU ab u) (hdis : us.Pairwise (fun a b => a.abo ≠ b.abo)) (hsa : ab.length < 2147483648) (hall : (pusB l.big us).length < 2147483648) (hn : us.length ≤ 2147483647)
   (hln : ln.length < 2147483648) (hrg : rg.length < 2147483648) (hsr : sr.length < 2147483648) (hlin : lin.length < 2147483648) (hrl : ∀ r, rl = some r → r.length < 2147483648)
   (hu0 : us[0]? = some u0) (hT0 : PTop (uctx l.big sr lin 0 u0) u0) (hzl : l.size = 4 ∨ l.size = 8)
   (hrt : (4 < l.vers ∧ rl = some rt ∧ rt ≠ []) ∨ (l.vers ≤ 4 ∧ rg = rt))
   (hus : ∀ (i : Nat) (u : PU), us[i]? = some u → FstR l sr lin rt (pusB l.big (us.take i)).length u (R i) (A i) (I i) (Po i)) (hno : ∀ j, j < us.length → covR (R j) pc = false) :
   Spc Tryz.prog 17 #[v, .int .u64 (pc : Int), nls] Γ H (fun r Γ' H' => r = .tuple #[.agg #[.int .i64 0, .int .i64 0, .bool false, nls], nls, .int .i64 2] ∧ H' = H) := by
  have hn0 : 0 < us.length := (List.getElem?_eq_some_iff.1 hu0).1
  have hrtl : rt.length < 2147483648 := by
    rcases hrt with ⟨-, h, -⟩ | ⟨-, h⟩
    · exact hrl _ h
    · rw [← h]; exact hrg
  have hv' := hv
  obtain ⟨vA, vI, vL, vR, vS, vD, rfl, -⟩ := hv'.ex
  have hdi0 := (hok u0 (List.mem_of_getElem? hu0)).dist
  obtain ⟨hz8, a0, its0, l0, hb0, hD0⟩ := hT0
  have hsp := pusB_split (us := us) l.big 0
  have hdr0 := pusB_drop (big := l.big) hu0
  refine Spc.body3 Tryz.func17 rfl Tryz.ntmps17 rfl ?_
  refine WC.seq ?_
  refine WC.region ?_
  (refine WL.box rfl spi_ rfl ?_; intro b3)
  (refine WL.alloc tab_ok rfl rfl ?_; intro b6)
  refine gz_ ?_
  refine WL.call rfl Tryz.call31 rfl rfl (by exact (open_ok hG hv hok hdis hsa hall (by omega) hn0 hln hrg hsr hlin hrl)) ?_
  rintro _ Γ1 _ hle1 ⟨pd, pu, rc, r2, r3, cs, dA, dI, dL, dR, dS, vl, vr, rfl, hcs, hR, hS, hl, hr, rfl⟩
  obtain ⟨p, c0, q, rfl, hp0, ⟨d, r, es, cm, u5, rfl, hd, him, hes⟩, hback⟩ := hcs.get hu0
  have hp1 : p = [] := List.eq_nil_of_length_eq_zero (by omega)
  subst hp1
  rw [hdr0, List.length_append, puB_length] at hsp
  have hblen : u0.body.length = (ulebL a0.code).length + (itexts its0).length + l0.length := by rw [hb0, List.length_append, List.length_append]; omega
  have hd1 := hd
  rw [hb0] at hd1
  have e0 : 0 + (pusB l.big (us.take 0)).length = 0 := rfl
  rw [e0]
  rw [e0] at hback
  refine gz_ ?_
  refine WL.call rfl Tryz.call33 rfl rfl (by exact (reader_ok (pu := pu) (c := uctx l.big sr lin 0 u0) (off1 := 0 + lsz u0.wide + hsz u0) (d := d) (r := r) (u5 := u5) (vers := u0.vers) (q := q) (n := us.length) (hG.mono hle1) pk_ ⟨⟨dS, .inr ⟨_, _, _, _, pk_, rfl⟩, hS⟩, ⟨vl, .inr ⟨_, _, _, _, pk_, rfl⟩, hl⟩, .inr ⟨_, _, _, _, pk_, rfl⟩, hsr, hlin⟩ (.inr ⟨_, _, _, _, pk_, rfl⟩) hn0 ⟨rfl, hz8, hdi0, ⟨es, cm, him, hes⟩, a0, its0, l0, hd1, hD0, by omega⟩)) ?_
  rintro _ Γ2 _ hle2 ⟨pr, u5', rfl, rfl⟩
  refine gz_ ?_
  have hq1 : UQs Γ2 l.big 0 us ([] ++ (uqc 0 (0 + lsz u0.wide + hsz u0) d r u5' u0.size u0.vers u0.wide [] ++ q)) := hback hle2 ⟨d, r, es, cm, u5', rfl, hd.mono hle2, hle2.imm _ _ him, hes.mono hle2⟩
  have hle12 := hle1.trans hle2
  have hE2 := hE.mono hle12
  have hev : Γ2.cell 1 0 = some (.iface 232 (.pointer (some a1))) := by obtain ⟨_, _, _, _, _, _, h, _⟩ := hE2; exact h
  refine WL.call rfl Tryz.call37 rfl rfl (by exact (seekPC_ok (R := R) (A := A) (I := I) (Po := Po) (ux := u0) (bx := 0) (vR := dR) (vRl := vr) (hG.mono hle12) hev Pick.here ⟨_, _, _, _, _, _, _, _, _, _, _, _, rfl⟩ Pick.here hq1 ⟨⟨dS, .inr ⟨_, _, _, _, pk_, rfl⟩, hS.mono hle2⟩, ⟨vl, .inr ⟨_, _, _, _, pk_, rfl⟩, hl.mono hle2⟩, .inr ⟨_, _, _, _, pk_, rfl⟩, hsr, hlin⟩ (.inr ⟨_, _, _, _, pk_, rfl⟩) hn hall hzl (.inr ⟨_, _, _, _, pk_, rfl⟩) (.inr ⟨_, _, _, _, pk_, rfl⟩) hrtl (by
      rcases hrt with ⟨h1, h2, h3⟩ | ⟨h1, h2⟩
      · subst h2; exact .inl ⟨h1, Byt.mono hle2 hr, h3⟩
      · subst h2; exact .inr ⟨h1, hR.mono hle2⟩) hus)) ?_
  rintro _ Γ3 _ hle3 (⟨k', u', pe, o', cs', hu', hcov', hfst, rfl, hEe, hA, hq3, rfl⟩ | ⟨-, rfl, o', cs', rfl⟩)
  case inl =>
    have := hno k' (List.getElem?_eq_some_iff.1 hu').1
    rw [hcov'] at this; cases this
  have hle13 := hle12.trans hle3
  refine gz_ ?_
  refine WL.call rfl Tryz.call32 rfl rfl (by exact (codeOfU_ok (hE.mono hle13))) ?_
  rintro _ _ _ - ⟨rfl, rfl, rfl⟩
  refine gz_ ?_
  refine WE.drop (b := pr) pk_ ?_
  refine WE.drop (b := pu) pk_ ?_
  refine WE.drop (b := pd) pk_ ?_
  refine WE.drop (b := b3) pk_ ?_
  exact end_ctt tab_ok rfl rfl rfl rfl rfl rfl pk_ rfl hle13 ⟨rfl, rfl⟩
end Go.Proofs.YtdplhbmoidepgaaGreatDoor
namespace Go.Proofs.YtdplhbmoidepgaaGreatDoor
open Go Go.Sl
set_option maxRecDepth 10000
set_option maxHeartbeats 4000000

theorem dec_bs {c : Ctx} {v : Int} {f : Nat} {e : List UInt8} {fv : FV} (h : Dec c v f e fv) : ∀ l, fv = .bs l → l.length < 2147483648 := by
  intro l hl
  cases h with
  | blk1 b hb => injection hl with hl; subst hl; omega
  | blk2 b hb => injection hl with hl; subst hl; omega
  | blk4 b hb => injection hl with hl; subst hl; omega
  | blk b hb => injection hl with hl; subst hl; omega
  | exp b hb => injection hl with hl; subst hl; omega
  | _ => cases hl
theorem dec_o {c : Ctx} {v : Int} {f : Nat} {e : List UInt8} {fv : FV} (h : Dec c v f e fv) : ∀ n, fv = .o n → n < 4294967296 := by
  intro n hn
  cases h with
  | radr2 b h1 h2 h3 => injection hn with hn; omega
  | radr b h1 h2 h3 => injection hn with hn; omega
  | ref1 b h1 h2 => injection hn with hn; omega
  | ref2 b h1 h2 => injection hn with hn; omega
  | ref4 b h1 => injection hn with hn; omega
  | ref8 b h1 => injection hn with hn; omega
  | refu b h1 => injection hn with hn; omega
  | _ => cases hn
/-- What the specification tells of an attribute. -/
def fdA (v : Int) (base : Nat) (a : Att) : Fd :=
  let c := (clsOf v a.attr a.form).1
  if c = 1 ∨ c = 11 then ⟨a.attr, c, 1, a.n, fsN, []⟩
  else if c = 2 ∨ c = 4 then ⟨a.attr, c, 5, 0, fsN, a.b⟩
  else if c = 3 ∨ c = 6 then ⟨a.attr, c, 2, a.n, fsN, []⟩
  else if c = 5 then ⟨a.attr, c, 3, if a.form = 25 then 1 else (a.n : Int), fsN, []⟩
  else if c = 10 then ⟨a.attr, c, 6, if a.form = 16 then (a.n : Int) else IntKind.u64.wrap ((a.n : Int) + base), fsN, []⟩
  else if c = 12 then ⟨a.attr, c, 4, 0, a.s, []⟩
  else ⟨a.attr, c, 0, a.n, fsN, []⟩
theorem fdA_attr (v : Int) (base : Nat) (a : Att) : (fdA v base a).attr = a.attr := by
  unfold fdA
  simp only
  repeat' split
  all_goals rfl
theorem FldC.fd {Γ : Env} {v : Int} {base : Nat} {a : Att} {c : List Value} (h : FldC Γ v base a c) : FdC Γ (fdA v base a) c := by
  obtain ⟨vb, hB, rfl⟩ := h
  unfold fdA valV valC
  simp only
  generalize (clsOf v a.attr a.form).1 = k
  repeat' split
  all_goals first | exact ⟨_, rfl, hB⟩ | exact ⟨_, rfl, Byt.nil⟩
theorem cls_set {v a f : Int} (h : (clsOf v a f).2 = true) : (clsOf v a f).1 = 1 ∨ (clsOf v a f).1 = 2 ∨ (clsOf v a f).1 = 3 ∨ (clsOf v a f).1 = 4 ∨ (clsOf v a f).1 = 5 ∨ (clsOf v a f).1 = 6 ∨ (clsOf v a f).1 = 10 ∨ (clsOf v a f).1 = 11 ∨ (clsOf v a f).1 = 12 := by
  have hf := cls_form h
  clear h
  unfold clsOf
  rcases hf with rfl | rfl | rfl | rfl | rfl | rfl | rfl | rfl | rfl | rfl | rfl | rfl | rfl | rfl | rfl | rfl | rfl | rfl | rfl | rfl | rfl | rfl | rfl | rfl | rfl | rfl
  all_goals simp
theorem cls_eq {v : Int} {a : Att} (h : (clsOf v a.attr a.form).2 = true) (h0 : 0 < a.attr) : formClass a.form.toNat ((a.attr.toNat : Nat) : Int) v = (clsOf v a.attr a.form).1 := by
  have e : ((a.attr.toNat : Nat) : Int) = a.attr := by omega
  rw [e]
  have hf := cls_form h
  have p11 : (ptrC 11).isSome = false := by decide
  have p28 : (ptrC 28).isSome = false := by decide
  have p59 : (ptrC 59).isSome = false := by decide
  unfold clsOf at h ⊢
  rcases hf with hf | hf | hf | hf | hf | hf | hf | hf | hf | hf | hf | hf | hf | hf | hf | hf | hf | hf | hf | hf | hf | hf | hf | hf | hf | hf
  all_goals rw [hf] at h ⊢
  all_goals simp [formClass] at h ⊢
  all_goals first
    | (rw [h]; decide)
    | (rcases h with (h | h) | h <;> rw [h] <;> simp [p11, p28, p59])
    | (rcases h with h | h <;> rw [h] <;> simp [p11, p59])
    | (obtain ⟨-, (h | h) | h⟩ := h <;> rw [h] <;> simp [p11, p28, p59])
    | (rw [h.2]; decide)
theorem w64_i64w {n : Nat} (h : n < 18446744073709551616) : IntKind.u64.wrap (i64w n) = (n : Int) := by
  unfold i64w
  rw [Go.Sl.w64]
  simp only [IntKind.wrap, IntKind.bits, IntKind.signed]
  simp
  omega
theorem fd_att {v : Int} {w : Bool} {z : Int} {big : Bool} {base so lo : Nat} {a : Att} (h : AttF v w z a) (hA : OkAtt v w z a) (hb : base < 2147483648) : fdI v (attI v w z big base so lo a) = fdA v base a := by
  have h0 := hA.at0
  have hc := cls_eq h.cls h0
  have hn := hA.n64
  have hfl := hA.flag
  have hrf := hA.ref
  have e1 : ((a.attr.toNat : Nat) : Int) = a.attr := by omega
  show fdOf ((a.attr.toNat : Nat) : Int) (formClass a.form.toNat ((a.attr.toNat : Nat) : Int) v) (attFV v base a) = fdA v base a
  rw [hc, e1]
  have hk := cls_set h.cls
  unfold attFV fdA
  simp only
  generalize (clsOf v a.attr a.form).1 = k at hk hfl hrf
  rcases hk with rfl | rfl | rfl | rfl | rfl | rfl | rfl | rfl | rfl
  · simp [fdOf]
  · simp [fdOf]
  · simp [fdOf, w64_i64w hn]
  · simp [fdOf]
  · have := hfl rfl
    by_cases h25 : a.form = 25
    · simp [fdOf, h25]
    · have hn01 : a.n = 0 ∨ a.n = 1 := by omega
      rcases hn01 with e | e <;> simp [fdOf, h25, e]
  · simp [fdOf, w64_i64w hn]
  · have := hrf rfl
    by_cases h16 : a.form = 16
    · simp [fdOf, h16]
    · simp [fdOf, h16]
      rw [w_u64 (by omega) (by omega)]
  · simp [fdOf]
  · simp [fdOf]
theorem LisC.map {α β : Type} {P : α → List Value → Prop} {Q : β → List Value → Prop} (f : α → β) (h : ∀ x c, P x c → Q (f x) c) : ∀ {xs : List α} {cs : List Value}, LisC P xs cs → LisC Q (xs.map f) cs
  | [], _, hl => hl
  | x :: xs, _, ⟨c1, c2, h1, h2, h3⟩ => ⟨c1, c2, h1, h x c1 h2, LisC.map f h h3⟩
/-- The fields that the specification tells of an entry. -/
def fdsS (v : Int) (base nx : Nat) (x : Nod) : List Fd := (if x.sib then [⟨1, 10, 6, nx, fsN, []⟩] else []) ++ x.atts.map (fdA v base)
theorem fdsS_len {v : Int} {base nx : Nat} {x : Nod} : (fdsS v base nx x).length = (if x.sib then 1 else 0) + x.atts.length := by
  unfold fdsS; rw [List.length_append, List.length_map]; cases x.sib <;> rfl
theorem EntI.en {Γ : Env} {v : Int} {base off nx : Nat} {x : Nod} {c : List Value} (h : EntI Γ v base off nx x c) (ht : x.tag ≠ 0) : EnC Γ ⟨off, x.tag, x.ch, fdsS v base nx x⟩ c := by
  rcases h with ⟨h0, -⟩ | ⟨-, vf, cs, rfl, hL, a, cap, rfl, hc, hA⟩
  · exact absurd h0 ht
  have hL2 := LisC.map (fdA v base) (fun _ _ h => FldC.fd h) hL
  refine ⟨_, rfl, a, cap, _, by rw [fdsS_len], by rw [fdsS_len]; exact hc, hA, ?_⟩
  unfold fdsS
  cases x.sib with
  | false => exact hL2
  | true => exact LisC.append (LisC.one ⟨_, rfl, Byt.nil⟩) hL2
theorem EntI.en0 {Γ : Env} {v : Int} {base off nx : Nat} {x : Nod} {c : List Value} (h : EntI Γ v base off nx x c) (ht : x.tag = 0) : EnC Γ ⟨0, 0, false, []⟩ c := by
  rcases h with ⟨-, rfl⟩ | ⟨h0, -⟩
  · exact ⟨_, rfl, none, 0, [], rfl, Nat.le_refl _, fun i x h => by simp at h, rfl⟩
  · exact absurd ht h0
theorem attsI_fd {v : Int} {w : Bool} {z : Int} {big : Bool} {base : Nat} (hb : base < 2147483648) : ∀ {l : List Att} {so lo : Nat}, (∀ a ∈ l, AttF v w z a ∧ OkAtt v w z a) → (attsI v w z big base so lo l).map (fdI v) = l.map (fdA v base)
  | [], _, _, _ => rfl
  | a :: l, so, lo, h => by
    have ha := h a (List.mem_cons_self ..)
    rw [attsI, List.map_cons, fd_att ha.1 ha.2 hb, attsI_fd hb fun b hb => h b (List.mem_cons_of_mem _ hb), List.map_cons]
theorem attsI_attr {v : Int} {w : Bool} {z : Int} {big : Bool} {base : Nat} : ∀ {l : List Att} {so lo : Nat}, (∀ a ∈ l, OkAtt v w z a) → ((attsI v w z big base so lo l).map (fdI v)).map Fd.attr = (l.map (fdA v base)).map Fd.attr
  | [], _, _, _ => rfl
  | a :: l, so, lo, h => by
    have ha := (h a (List.mem_cons_self ..)).at0
    rw [attsI, List.map_cons, List.map_cons, attsI_attr fun b hb => h b (List.mem_cons_of_mem _ hb), List.map_cons, List.map_cons, fdA_attr, show (fdI v (attI v w z big base so lo a)).attr = a.attr from by
      show (fdOf ((a.attr.toNat : Nat) : Int) _ _).attr = _
      rw [fdOf_attr]; omega]
theorem sib_fd {v : Int} {big : Bool} {base nx : Nat} : fdI v (sibI big base nx) = ⟨1, 10, 6, nx, fsN, []⟩ := by
  show fdOf ((1 : Nat) : Int) (formClass 19 ((1 : Nat) : Int) v) (.o nx) = _
  have : formClass 19 ((1 : Nat) : Int) v = 10 := by simp [formClass]
  rw [this]; rfl
theorem nodI_fd {v : Int} {w : Bool} {z : Int} {big : Bool} {base so lo nx : Nat} {x : Nod} (hb : base < 2147483648) (h : ∀ a ∈ x.atts, AttF v w z a ∧ OkAtt v w z a) : (nodI v w z big base so lo nx x).map (fdI v) = fdsS v base nx x := by
  unfold nodI fdsS
  rw [List.map_append, attsI_fd hb h]
  cases x.sib with
  | false => rfl
  | true => simp only [if_true, List.map_cons, List.map_nil, sib_fd]
theorem nodI_attr {v : Int} {w : Bool} {z : Int} {big : Bool} {base so lo nx : Nat} {x : Nod} (h : ∀ a ∈ x.atts, OkAtt v w z a) : ((nodI v w z big base so lo nx x).map (fdI v)).map Fd.attr = (fdsS v base nx x).map Fd.attr := by
  unfold nodI fdsS
  rw [List.map_append, List.map_append, attsI_attr h, List.map_append]
  cases x.sib with
  | false => rfl
  | true => simp only [if_true, List.map_cons, List.map_nil, sib_fd]
theorem same_node {v : Int} {w : Bool} {z : Int} {big : Bool} {off base so lo nx : Nat} {x : Nod} (ht : x.tag ≠ 0) (ht0 : 0 ≤ x.tag) (hb : base < 2147483648) (hA : ∀ a ∈ x.atts, OkAtt v w z a) (hF : x.tag ≠ 17 → ∀ a ∈ x.atts, AttF v w z a) :
    Same ⟨off, ((x.tag.toNat : Nat) : Int), x.ch, (nodI v w z big base so lo nx x).map (fdI v)⟩ ⟨off, x.tag, x.ch, fdsS v base nx x⟩ := by
  have e : ((x.tag.toNat : Nat) : Int) = x.tag := by omega
  refine .inr ⟨by simp only [e]; exact ht, rfl, e, rfl, by simp only [List.length_map, nodI_len, fdsS_len], fun i f g hf hg => ⟨?_, fun h17 => ?_⟩⟩
  · have h1 := nodI_attr (big := big) (base := base) (so := so) (lo := lo) (nx := nx) hA
    have h2 := congrArg (fun l => l[i]?) h1
    simp only at hf hg
    rw [List.getElem?_map, hf, List.getElem?_map, hg] at h2
    injection h2
  · simp only [e] at h17
    have h1 := nodI_fd (big := big) (so := so) (lo := lo) (nx := nx) hb fun a ha => ⟨hF h17 a ha, hA a ha⟩
    rw [h1, hg] at hf
    injection hf with hf
    exact hf.symm
end Go.Proofs.YtdplhbmoidepgaaGreatDoor
namespace Go.Proofs.YtdplhbmoidepgaaGreatDoor
open Go Go.Sl
set_option maxRecDepth 10000
set_option maxHeartbeats 4000000

/-- A unit's text from an entry on. -/
theorem node_at {big : Bool} {U : List Uni} {k : Nat} {u : Uni} {j : Nat} {x : Nod} (hx : u.nods[j]? = some x) :
    ∃ so lo sb, sb.length = 4 ∧ (puAt big U k u).body.drop (offN big U k u j) = nodE u.vers u.wide u.size big so lo j x sb ++ (puAt big U k u).body.drop (offN big U k u (j + 1)) ∧
      offN big U k u (j + 1) = offN big U k u j + (nodE u.vers u.wide u.size big so lo j x sb).length ∧ offN big U k u (j + 1) ≤ (puAt big U k u).body.length ∧
      so = (strT (U.take k)).length + (textS (u.nods.take j)).length ∧ lo = (linT (U.take k)).length + (textL (u.nods.take j)).length ∧
      sb = fix ((plU u big (baseU big U k) (strT (U.take k)).length (linT (U.take k)).length).getD (aft u.nods j) 0 - baseU big U k) 4 big := by
  have hj := (List.getElem?_eq_some_iff.1 hx).1
  obtain ⟨pre, post, h1, h2⟩ := finL_split (v := u.vers) (w := u.wide) (z := u.size) (big := big) (base := baseU big U k) (pl := plU u big (baseU big U k) (strT (U.take k)).length (linT (U.take k)).length) (all := u.nods)
    (so := (strT (U.take k)).length) (lo := (linT (U.take k)).length) (k := 0) hx
  rw [Nat.zero_add] at h1
  have hB : (puAt big U k u).body = _ := h1
  have h2' : pre.length = offN big U k u j := h2
  have htk : u.nods.take (j + 1) = u.nods.take j ++ [x] := by rw [List.take_add_one, hx]; rfl
  have hl : (u.nods.take j).length = j := by rw [List.length_take]; omega
  have hof : offN big U k u (j + 1) = offN big U k u j + (nodE u.vers u.wide u.size big ((strT (U.take k)).length + (textS (u.nods.take j)).length) ((linT (U.take k)).length + (textL (u.nods.take j)).length) j x
      (fix ((plU u big (baseU big U k) (strT (U.take k)).length (linT (U.take k)).length).getD (aft u.nods j) 0 - baseU big U k) 4 big)).length := by
    rw [nodE_len2 (fix_length _ _ _)]
    unfold offN
    rw [htk, nodL_snoc, sumL_append, hl, Nat.zero_add]
    simp [sumL, sumBy]
  refine ⟨_, _, _, fix_length _ _ _, ?_, hof, ?_, rfl, rfl, rfl⟩
  · have e1 := drop_at hB h2'.symm
    rw [e1]
    refine congrArg _ (Eq.symm ?_)
    rw [hof, ← List.drop_drop, e1, List.drop_left]
  · rw [hof, hB, List.length_append, List.length_append, h2']; omega
/-- An entry as the package tells it. -/
def tE (big : Bool) (U : List Uni) (k : Nat) (u : Uni) (j : Nat) : En := match u.nods[j]? with
  | some x => if x.tag = 0 then ⟨0, 0, false, []⟩ else ⟨((offU big (pusU big 0 0 0 0 U) k + offN big U k u j : Nat) : Int), ((x.tag.toNat : Nat) : Int), x.ch, (itsAt big U k u j x).map (fdI ((puAt big U k u).vers : Int))⟩
  | none => ⟨0, 0, false, []⟩
/-- An entry as the specification tells it. -/
def wE (big : Bool) (U : List Uni) (k : Nat) (u : Uni) (j : Nat) : En := match u.nods[j]? with
  | some x => if x.tag = 0 then ⟨0, 0, false, []⟩ else
      ⟨(((plU u big (baseU big U k) (strT (U.take k)).length (linT (U.take k)).length).getD j 0 : Nat) : Int), x.tag, x.ch, fdsS u.vers (baseU big U k) ((plU u big (baseU big U k) (strT (U.take k)).length (linT (U.take k)).length).getD (aft u.nods j) 0) x⟩
  | none => ⟨0, 0, false, []⟩
theorem its_few {big : Bool} {U : List Uni} {k : Nat} {u : Uni} {j : Nat} {x : Nod} (hN : NodT x) : (itsAt big U k u j x).length < 1048576 := by
  have := hN.na
  unfold itsAt
  rw [nodI_len]; split <;> omega
theorem nodT1_at {big : Bool} {U : List Uni} {k : Nat} {u : Uni} (hU : ∀ u ∈ U, UniK u) (hk : U[k]? = some u) (hw : (pusB big (pusU big 0 0 0 0 U)).length < 2147483648) (hs : (strT U).length < 2147483648) (hl : (linT U).length < 2147483648)
    {j : Nat} {x : Nod} (hx : u.nods[j]? = some x) :
    NodT1 (uctx big (strT U) (linT U) (baseU big U k) (puAt big U k u)) (puAt big U k u) (offU big (pusU big 0 0 0 0 U) k + offN big U k u j) ((puAt big U k u).body.drop (offN big U k u j)) (tE big U k u j)
      (offU big (pusU big 0 0 0 0 U) k + offN big U k u (j + 1)) ((puAt big U k u).body.drop (offN big U k u (j + 1))) := by
  obtain ⟨so, lo, sb, hsb, h1, h2, h3, e1, e2, e3⟩ := node_at (big := big) (U := U) (k := k) hx
  have hN := (hU u (List.mem_of_getElem? hk)).nod x (List.mem_of_getElem? hx)
  unfold tE
  rw [hx]
  simp only
  by_cases ht : x.tag = 0
  · rw [if_pos ht]
    have e0 : nodE u.vers u.wide u.size big so lo j x sb = ulebL 0 := by rw [nodE, if_pos ht, ulebL_small (by decide)]; rfl
    rw [e0] at h1 h2
    have e4 : (ulebL 0).length = 1 := by rw [ulebL_small (by decide)]; rfl
    exact .inl ⟨h1, rfl, by omega⟩
  · rw [if_neg ht]
    obtain ⟨pre, post, hb, hpl, hD⟩ := die_at hU hk hw hs hl hx ht
    have hlen : (nodE u.vers u.wide u.size big so lo j x sb).length = (ulebL (abbE j x).code).length + (itexts (itsAt big U k u j x)).length := by
      rw [e3, nodI_text ht, List.length_append, e1, e2]; rfl
    have hd := drop_at hb hpl.symm
    have hpo : (puAt big U k u).body.drop (offN big U k u (j + 1)) = post := by
      rw [h2, hlen, ← List.drop_drop, hd, ← List.append_assoc, ← List.length_append, List.drop_left]
    refine .inr ⟨abbE j x, itsAt big U k u j x, ?_, hD, rfl, by omega, its_few hN, fun y hy l hl => dec_bs (hD.okI y hy).dec l hl, fun y hy n hn => dec_o (hD.okI y hy).dec n hn, ?_⟩
    · rw [hpo]; exact hd
    · have := hN.t1
      show x.tag.toNat < 4294967296
      omega
theorem ents_at {big : Bool} {U : List Uni} {k : Nat} {u : Uni} (hU : ∀ u ∈ U, UniK u) (hk : U[k]? = some u) (hw : (pusB big (pusU big 0 0 0 0 U)).length < 2147483648) (hs : (strT U).length < 2147483648) (hl : (linT U).length < 2147483648) :
    ∀ (d j : Nat), j + d = u.nods.length → Ents (uctx big (strT U) (linT U) (baseU big U k) (puAt big U k u)) (puAt big U k u) (offU big (pusU big 0 0 0 0 U) k + offN big U k u j) ((puAt big U k u).body.drop (offN big U k u j)) (((List.range u.nods.length).map (tE big U k u)).drop j)
  | 0, j, h => by
    rw [show ((List.range u.nods.length).map (tE big U k u)).drop j = [] from List.drop_eq_nil_of_le (by rw [List.length_map, List.length_range]; omega)]
    exact .nil
  | d + 1, j, h => by
    obtain ⟨x, hx⟩ : ∃ x, u.nods[j]? = some x := ⟨_, List.getElem?_eq_getElem (by omega)⟩
    have hj : j < ((List.range u.nods.length).map (tE big U k u)).length := by rw [List.length_map, List.length_range]; omega
    rw [List.drop_eq_getElem_cons hj]
    have e : ((List.range u.nods.length).map (tE big U k u))[j] = tE big U k u j := by simp
    rw [e]
    exact .cons (nodT1_at hU hk hw hs hl hx) (ents_at hU hk hw hs hl d (j + 1) (by omega))
theorem arr_w {Γ : Env} {big : Bool} {U : List Uni} {k : Nat} {u : Uni} {ve : Value}
    (h : Arr Γ (EntN Γ u.vers (baseU big U k) (plU u big (baseU big U k) (strT (U.take k)).length (linT (U.take k)).length) u.nods) ve (List.range u.nods.length)) : Arr Γ (EnC Γ) ve ((List.range u.nods.length).map (wE big U k u)) := by
  obtain ⟨a, cap, cells, rfl, hc, hA, hL⟩ := h
  refine ⟨a, cap, cells, by rw [List.length_map], by rw [List.length_map]; exact hc, hA, LisC.map _ (fun j c hE => ?_) hL⟩
  obtain ⟨x, off, nx, hx, ho, hn, hI⟩ := hE
  unfold wE
  rw [hx]
  simp only
  rw [List.getD_eq_getElem?_getD, ho, List.getD_eq_getElem?_getD, hn, Option.getD_some, Option.getD_some]
  by_cases ht : x.tag = 0
  · rw [if_pos ht]; exact hI.en0 ht
  · rw [if_neg ht]; exact hI.en ht
theorem same_at {big : Bool} {U : List Uni} {k : Nat} {u : Uni} (hT : UniK u) (hk : U[k]? = some u) (hb : baseU big U k < 2147483648) {j : Nat} {x : Nod} (hx : u.nods[j]? = some x) (hF : x.tag ≠ 17 → ∀ a ∈ x.atts, AttF u.vers u.wide u.size a) :
    Same (tE big U k u j) (wE big U k u j) := by
  have hN := hT.nod x (List.mem_of_getElem? hx)
  have hj := (List.getElem?_eq_some_iff.1 hx).1
  have hv := hT.v2
  unfold tE wE
  rw [hx]
  simp only
  by_cases ht : x.tag = 0
  · rw [if_pos ht, if_pos ht]; exact .inl ⟨rfl, rfl, rfl, rfl⟩
  · rw [if_neg ht, if_neg ht]
    have hpl : (plU u big (baseU big U k) (strT (U.take k)).length (linT (U.take k)).length).length = u.nods.length + 1 := by rw [plU, plN_length, nodL_length]
    obtain ⟨off, ho⟩ : ∃ o, (plU u big (baseU big U k) (strT (U.take k)).length (linT (U.take k)).length)[j]? = some o := ⟨_, List.getElem?_eq_getElem (by omega)⟩
    have hoa := off_at hT.toUniT hk ho
    have e1 : (plU u big (baseU big U k) (strT (U.take k)).length (linT (U.take k)).length).getD j 0 = offU big (pusU big 0 0 0 0 U) k + offN big U k u j := by
      rw [List.getD_eq_getElem?_getD, ho, Option.getD_some, hoa]
    have e2 : ((puAt big U k u).vers : Int) = u.vers := by
      show ((u.vers.toNat : Nat) : Int) = u.vers
      omega
    rw [e1, e2]
    exact same_node ht hN.t0 hb (hT.att x (List.mem_of_getElem? hx)) hF
end Go.Proofs.YtdplhbmoidepgaaGreatDoor
namespace Go.Proofs.YtdplhbmoidepgaaGreatDoor
open Go Go.Sl
set_option maxRecDepth 10000
set_option maxHeartbeats 40000000

/-- The places of the span of a number. -/
def Rsp (sp : List Spn) (i : Nat) : List (Nat × Nat) := match sp[i]? with
  | some x => plcs x
  | none => []
/-- What is known of a unit's first entry. -/
structure FstK (l : Lay) (sp : List Spn) (us : List Uni) (i : Nat) (x : Spn) (u0 : Uni) (a : Abb) (its : List Itm) (po : List UInt8) : Prop where
  fst : FstR l (strT (mkU l sp us)) (linT (mkU l sp us)) (rtOf l sp) (baseU l.big (mkU l sp us) i) (puAt l.big (mkU l sp us) i (uniS l x (bgn l + (lstsT l (sp.take i)).length) u0)) (plcs x) a its po
  told : (⟨((offU l.big (pusU l.big 0 0 0 0 (mkU l sp us)) i : Nat) : Int), 17, a.ch, its.map (fdI ((puAt l.big (mkU l sp us) i (uniS l x (bgn l + (lstsT l (sp.take i)).length) u0)).vers : Int))⟩ : En) = tE l.big (mkU l sp us) i (uniS l x (bgn l + (lstsT l (sp.take i)).length) u0) 0
  post : po = (puAt l.big (mkU l sp us) i (uniS l x (bgn l + (lstsT l (sp.take i)).length) u0)).body.drop (offN l.big (mkU l sp us) i (uniS l x (bgn l + (lstsT l (sp.take i)).length) u0) 1)
  len : (ulebL a.code).length + (itexts its).length = offN l.big (mkU l sp us) i (uniS l x (bgn l + (lstsT l (sp.take i)).length) u0) 1
  few : its.length < 1048576
  bs : ∀ x ∈ its, ∀ l, x.fv = .bs l → l.length < 2147483648
  o : ∀ x ∈ its, ∀ n, x.fv = .o n → n < 4294967296
theorem fst_at {l : Lay} {sp : List Spn} {us : List Uni} (hok : OkSpd l sp us) (hR : MkR l sp us) {i : Nat} {x : Spn} {u0 : Uni} (hx : sp[i]? = some x) (hu : us[i]? = some u0) : ∃ a its po, FstK l sp us i x u0 a its po := by
  obtain ⟨x', hx', hm⟩ := mkU_get hok hu
  rw [hx] at hx'; injection hx' with hx'; subst hx'
  obtain ⟨hsx, -, -, -, hou⟩ := hok.each i x u0 hx hu
  obtain ⟨n0, -, hn0⟩ := top_nod (l := l) (x := x) (k := bgn l + (lstsT l (sp.take i)).length) hou.n0
  have ht : (spanN l x (bgn l + (lstsT l (sp.take i)).length) n0).tag ≠ 0 := by show (17 : Int) ≠ 0; decide
  have hUk := hR.uni _ (List.mem_of_getElem? hm)
  obtain ⟨pre, post, hb, hpl, hD⟩ := die_at (big := l.big) hR.uni hm hR.inf hR.str hR.lin hn0 ht
  have hp0 : pre = [] := List.eq_nil_of_length_eq_zero (by rw [hpl]; rfl)
  subst hp0
  have hv2 := hok.lay.v2
  have hlst := hR.lst i
  have hbg := bgn_le l
  obtain ⟨post2, hrd, hrl⟩ := rt_drop (l := l) hx
  have hRS : RgS l 17 (itsAt l.big (mkU l sp us) i (uniS l x (bgn l + (lstsT l (sp.take i)).length) u0) 0 (spanN l x (bgn l + (lstsT l (sp.take i)).length) n0)) (rtOf l sp) (plcs x) :=
    span_says hsx hrl (by omega) (fun hl => by rw [hrd]; unfold lstZ; rw [if_pos hl])
  have hlen : (plcs x).length ≤ 1000 := by
    have h1 := hsx.np
    cases hl : x.lst with
    | true => have := plcs_len x hl; omega
    | false => unfold plcs; rw [hl]; simp
  obtain ⟨so, lo, sb, hsb, h1, h2, h3, e1, e2, e3⟩ := node_at (big := l.big) (U := mkU l sp us) (k := i) hn0
  have hz0 : offN l.big (mkU l sp us) i (uniS l x (bgn l + (lstsT l (sp.take i)).length) u0) 0 = 0 := rfl
  have hnl : (nodE (uniS l x (bgn l + (lstsT l (sp.take i)).length) u0).vers (uniS l x (bgn l + (lstsT l (sp.take i)).length) u0).wide (uniS l x (bgn l + (lstsT l (sp.take i)).length) u0).size l.big so lo 0 (spanN l x (bgn l + (lstsT l (sp.take i)).length) n0) sb).length =
      (ulebL (abbE 0 (spanN l x (bgn l + (lstsT l (sp.take i)).length) n0)).code).length + (itexts (itsAt l.big (mkU l sp us) i (uniS l x (bgn l + (lstsT l (sp.take i)).length) u0) 0 (spanN l x (bgn l + (lstsT l (sp.take i)).length) n0))).length := by
    rw [e3, nodI_text ht, List.length_append, e1, e2]; rfl
  refine ⟨abbE 0 (spanN l x (bgn l + (lstsT l (sp.take i)).length) n0), itsAt l.big (mkU l sp us) i (uniS l x (bgn l + (lstsT l (sp.take i)).length) u0) 0 (spanN l x (bgn l + (lstsT l (sp.take i)).length) n0), post,
    ⟨hb, hD, rfl, hRS, hlen, ?_, rfl, absL_pair⟩, ?_, ?_, ?_, its_few (hUk.nod _ (List.mem_of_getElem? hn0)), fun y hy l hl => dec_bs (hD.okI y hy).dec l hl, fun y hy n hn => dec_o (hD.okI y hy).dec n hn⟩
  · show ((l.vers.toNat : Nat) : Int) = l.vers
    omega
  · unfold tE
    rw [hn0]
    simp only
    rw [if_neg ht, hz0]
    rfl
  · rw [h2, hnl, hz0, Nat.zero_add, hb, List.nil_append, ← List.append_assoc, ← List.length_append, List.drop_left]
  · rw [h2, hnl, hz0]; omega
theorem fsts {l : Lay} {sp : List Spn} {us : List Uni} (hok : OkSpd l sp us) (hR : MkR l sp us) : ∃ (A : Nat → Abb) (I : Nat → List Itm) (Po : Nat → List UInt8), ∀ (i : Nat) (x : Spn) (u0 : Uni), sp[i]? = some x → us[i]? = some u0 → FstK l sp us i x u0 (A i) (I i) (Po i) := by
  have h : ∀ i : Nat, ∃ t : Abb × List Itm × List UInt8, ∀ (x : Spn) (u0 : Uni), sp[i]? = some x → us[i]? = some u0 → FstK l sp us i x u0 t.1 t.2.1 t.2.2 := fun i => by
    cases hx : sp[i]? with
    | none => exact ⟨⟨⟨0, 0, false, []⟩, [], []⟩, fun x u0 h => by cases h⟩
    | some x =>
      cases hu : us[i]? with
      | none => exact ⟨⟨⟨0, 0, false, []⟩, [], []⟩, fun x u0 _ h => by cases h⟩
      | some u0 =>
        obtain ⟨a, its, po, hF⟩ := fst_at hok hR hx hu
        refine ⟨⟨a, its, po⟩, fun x' u' h1 h2 => ?_⟩
        injection h1 with h1; injection h2 with h2; subst h1 h2
        exact hF
  obtain ⟨f, hf⟩ := Classical.axiomOfChoice h
  exact ⟨fun i => (f i).1, fun i => (f i).2.1, fun i => (f i).2.2, fun i x u0 h1 h2 => hf i x u0 h1 h2⟩
end Go.Proofs.YtdplhbmoidepgaaGreatDoor
namespace Go.Proofs.YtdplhbmoidepgaaGreatDoor
open Go Go.Sl
set_option maxRecDepth 10000
set_option maxHeartbeats 40000000

section
variable {Γ : Env} {H : List Blk} {l : Lay} {sp : List Spn} {us : List Uni} {v vs : Value} {k pc : Nat} {xs : Spn} {u0 : Uni} {a1 : Addr}
theorem rt_of : (4 < l.vers ∧ (if 4 < l.vers then some (headT l (lstsT l sp)) else none) = some (rtOf l sp) ∧ rtOf l sp ≠ []) ∨ (l.vers ≤ 4 ∧ (if 4 < l.vers then [] else lstsT l sp) = rtOf l sp) := by
  by_cases h : 4 < l.vers
  · rw [if_pos h, if_pos h]
    refine .inl ⟨h, ?_, ?_⟩
    · unfold rtOf; rw [if_pos h]
    · unfold rtOf; rw [if_pos h]
      intro e
      have := congrArg List.length e
      rw [headT_len] at this; simp at this
  · rw [if_neg h, if_neg h]
    refine .inr ⟨by omega, ?_⟩
    unfold rtOf; rw [if_neg h]
theorem hus_of {A : Nat → Abb} {I : Nat → List Itm} {Po : Nat → List UInt8} (hok : OkSpd l sp us) (hR : MkR l sp us) (hA : ∀ (i : Nat) (x : Spn) (u0 : Uni), sp[i]? = some x → us[i]? = some u0 → FstK l sp us i x u0 (A i) (I i) (Po i)) :
   ∀ (i : Nat) (u : PU), (pusU l.big 0 0 0 0 (mkU l sp us))[i]? = some u → FstR l (strT (mkU l sp us)) (linT (mkU l sp us)) (rtOf l sp) (pusB l.big ((pusU l.big 0 0 0 0 (mkU l sp us)).take i)).length u (Rsp sp i) (A i) (I i) (Po i) := by
  intro i u hu
  have hi := (List.getElem?_eq_some_iff.1 hu).1
  rw [pusU_length, hR.len] at hi
  have hsl := hok.sl
  obtain ⟨u0, hu0⟩ : ∃ u, us[i]? = some u := ⟨_, List.getElem?_eq_getElem hi⟩
  obtain ⟨x, hx, hm⟩ := mkU_get hok hu0
  have hF := (hA i x u0 hx hu0).fst
  rw [puAt_get hm] at hu
  injection hu with hu
  subst hu
  rw [← baseU_eq]
  have e : Rsp sp i = plcs x := by unfold Rsp; rw [hx]
  rw [e]
  exact hF
theorem seekPC_spd (hG : Glob Γ) (hE : SentR Γ a1) (hok : OkSpd l sp us) (hR : MkR l sp us)
   (hS : SecR Γ v (abT (mkU l sp us)) (pusB l.big (pusU l.big 0 0 0 0 (mkU l sp us))) [] (if 4 < l.vers then [] else lstsT l sp) (strT (mkU l sp us)) (linT (mkU l sp us)) (if 4 < l.vers then some (headT l (lstsT l sp)) else none))
   (hxs : sp[k]? = some xs) (hu0 : us[k]? = some u0) (hst : Arr Γ StC vs (List.range (u0.nods.length - 1))) (hcov : covR (plcs xs) pc = true) (hone : ∀ (j : Nat) (x : Spn), sp[j]? = some x → covR (plcs x) pc = true → j = k) :
   Spc Tryz.prog 17 #[v, .int .u64 (pc : Int), vs] Γ H (fun r Γ' H' => ∃ ce vo, r = .tuple #[.agg ce.toArray, vo, .int .i64 0] ∧ EnC Γ' (tE l.big (mkU l sp us) k (uniS l xs (bgn l + (lstsT l (sp.take k)).length) u0) 0) ce ∧
     Arr Γ' (AnC Γ') vo (((List.range u0.nods.length).map (tE l.big (mkU l sp us) k (uniS l xs (bgn l + (lstsT l (sp.take k)).length) u0))).drop 1) ∧ H' = H) := by
  obtain ⟨A, I, Po, hA⟩ := fsts hok hR
  have hF := hA k xs u0 hxs hu0
  obtain ⟨x', hx', hm⟩ := mkU_get hok hu0
  rw [hxs] at hx'; injection hx' with hx'; subst hx'
  obtain ⟨uz, huz⟩ : ∃ u, us[0]? = some u := ⟨_, List.getElem?_eq_getElem hR.n0⟩
  obtain ⟨xz, hxz, hmz⟩ := mkU_get hok huz
  have hlenP : (pusU l.big 0 0 0 0 (mkU l sp us)).length = us.length := by rw [pusU_length]; exact hR.len
  have h4 := hR.n4
  have hsl := hok.sl
  obtain ⟨-, -, -, -, hou⟩ := hok.each k xs u0 hxs hu0
  have hn0 := hou.n0
  have hn1 := hou.n1
  have hnl : (uniS l xs (bgn l + (lstsT l (sp.take k)).length) u0).nods.length = u0.nods.length := nodsS_length _ _ _ _
  have hXl : (((List.range u0.nods.length).map (tE l.big (mkU l sp us) k (uniS l xs (bgn l + (lstsT l (sp.take k)).length) u0))).drop 1).length = u0.nods.length - 1 := by rw [List.length_drop, List.length_map, List.length_range]
  have hk : k < us.length := (List.getElem?_eq_some_iff.1 hu0).1
  have hen := ents_at (big := l.big) hR.uni hm hR.inf hR.str hR.lin (u0.nods.length - 1) 1 (by rw [hnl]; omega)
  rw [hnl] at hen
  have hmain := implSeekPC_ok (Γ := Γ) (H := H) (rt := rtOf l sp) (k := k) (pc := pc) (R := Rsp sp) (A := A) (I := I) (Po := Po) (u := puAt l.big (mkU l sp us) k (uniS l xs (bgn l + (lstsT l (sp.take k)).length) u0))
    (xs := ((List.range u0.nods.length).map (tE l.big (mkU l sp us) k (uniS l xs (bgn l + (lstsT l (sp.take k)).length) u0))).drop 1)
    hG hE hS (by rw [hXl]; exact hst) (by omega) hR.ok pusU_pair hR.ab hR.inf (by omega) (by simp) hR.rg hR.str hR.lin hR.rl (puAt_get hmz) (ptop_at hok hR hxz huz) hok.lay.sz rt_of (hus_of hok hR hA) (puAt_get hm)
    (by have e : Rsp sp k = plcs xs := by unfold Rsp; rw [hxs]
        rw [e]; exact hcov)
    (fun j hj hc => by
      obtain ⟨x, hx⟩ : ∃ x, sp[j]? = some x := ⟨_, List.getElem?_eq_getElem (by omega)⟩
      have e : Rsp sp j = plcs x := by unfold Rsp; rw [hx]
      rw [e] at hc
      exact hone j x hx hc)
    ⟨hF.few, hF.bs, hF.o⟩ (by rw [hF.post, Nat.add_assoc, hF.len, ← baseU_eq]; exact hen)
  rw [hF.told] at hmain
  exact hmain
theorem seekPCn_spd (hG : Glob Γ) (hE : SentR Γ a1) (hok : OkSpd l sp us) (hR : MkR l sp us)
   (hS : SecR Γ v (abT (mkU l sp us)) (pusB l.big (pusU l.big 0 0 0 0 (mkU l sp us))) [] (if 4 < l.vers then [] else lstsT l sp) (strT (mkU l sp us)) (linT (mkU l sp us)) (if 4 < l.vers then some (headT l (lstsT l sp)) else none))
   (hno : ∀ (j : Nat) (x : Spn), sp[j]? = some x → covR (plcs x) pc = false) :
   Spc Tryz.prog 17 #[v, .int .u64 (pc : Int), nls] Γ H (fun r Γ' H' => r = .tuple #[.agg #[.int .i64 0, .int .i64 0, .bool false, nls], nls, .int .i64 2] ∧ H' = H) := by
  obtain ⟨A, I, Po, hA⟩ := fsts hok hR
  obtain ⟨uz, huz⟩ : ∃ u, us[0]? = some u := ⟨_, List.getElem?_eq_getElem hR.n0⟩
  obtain ⟨xz, hxz, hmz⟩ := mkU_get hok huz
  have hlenP : (pusU l.big 0 0 0 0 (mkU l sp us)).length = us.length := by rw [pusU_length]; exact hR.len
  have h4 := hR.n4
  have hsl := hok.sl
  exact implSeekPCn_ok (Γ := Γ) (H := H) (rt := rtOf l sp) (pc := pc) (R := Rsp sp) (A := A) (I := I) (Po := Po)
    hG hE hS hR.ok pusU_pair hR.ab hR.inf (by omega) (by simp) hR.rg hR.str hR.lin hR.rl (puAt_get hmz) (ptop_at hok hR hxz huz) hok.lay.sz rt_of (hus_of hok hR hA)
    (fun j hj => by
      obtain ⟨x, hx⟩ : ∃ x, sp[j]? = some x := ⟨_, List.getElem?_eq_getElem (by omega)⟩
      have e : Rsp sp j = plcs x := by unfold Rsp; rw [hx]
      rw [e]; exact hno j x hx)
end
end Go.Proofs.YtdplhbmoidepgaaGreatDoor
