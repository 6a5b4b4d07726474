/- Parts of the proof: Dd De Df Dg. -/
import Derived.Test.YtbgkbgoonjkghaaGreatDoorA3
import Derived.Test.YtbgkbgoonjkghaaGreatDoorA6
import Derived.Test.YtbgkbgoonjkghaaGreatDoorA8
namespace Go.Proofs.YtbgkbgoonjkghaaGreatDoor
open Go Go.Sl
set_option maxRecDepth 10000
set_option maxHeartbeats 40000000
def tagSt (w : Int) : Int := if w = 0 then 19 else if w = 1 then 23 else 2
def tagQ (w : Int) : Int := if w = 0 then 38 else if w = 1 then 53 else 55
def defTag (d : Df) : Int := if d.kind = 9 then 15 else if d.kind = 12 then 22 else if d.kind = 13 then tagQ d.which else if d.kind = 16 then 59 else if d.kind = 10 then tagSt d.which
 else if d.kind = 11 then 1 else if d.kind = 14 then 4 else if d.kind = 15 then 21 else 36
def incA : Att := ⟨60, 12, false, 1, noS, []⟩
def defA (l : Lay) (pl : List Int) (d : Df) : List Att := if d.kind = 9 then ofT l pl d.of else if d.kind = 12 then nameA d.name :: ofT l pl d.of else if d.kind = 13 then ofT l pl d.of
 else if d.kind = 16 then [nameA d.name] else if d.kind = 10 then [nameA d.name, if d.inc then incA else plainA 11 d.size] else if d.kind = 11 then ofT l pl d.of
 else if d.kind = 14 then [nameA d.name, plainA 11 d.size] else if d.kind = 15 then ofT l pl d.of else [nameA d.name, ⟨62, 11, false, u64n d.kind, noS, []⟩, plainA 11 d.size]
def memN (l : Lay) (pl : List Int) (m : Mem) : Nod := ⟨13, false, false, nameA m.name :: ofT l pl m.of ++ [plainA 56 m.off]⟩
def cntA (up : Bool) (z : Int) : List Att := if z < 0 then [] else if up then [plainA 47 (z - 1)] else [plainA 55 z]
def cntN (up : Bool) (z : Int) : Nod := ⟨33, false, false, cntA up z⟩
def conN (c : Con) : Nod := ⟨40, false, false, [nameA c.name, ⟨28, 13, false, u64n c.val, noS, []⟩]⟩
def parN (l : Lay) (pl : List Int) (p : Int) : Nod := if p = -3 then ⟨24, false, false, []⟩ else ⟨5, false, false, ofT l pl p⟩
def defK (l : Lay) (pl : List Int) (d : Df) : List Nod := if d.kind = 10 then d.mems.map (memN l pl) else if d.kind = 11 then d.cnts.map (cntN d.upper) else if d.kind = 14 then d.cons.map conN
 else if d.kind = 15 then d.pars.map (parN l pl) else []
def nulN : Nod := ⟨0, false, false, []⟩
def defN (l : Lay) (pl : List Int) (d : Df) : List Nod := ⟨defTag d, !(defK l pl d).isEmpty, false, defA l pl d⟩ :: (if (defK l pl d).isEmpty then [] else defK l pl d ++ [nulN])
abbrev nodV (t : Int) (ch : Bool) (v : Value) : List Value := [.int .i64 t, .bool ch, .bool false, v]
theorem nodV_C {Γ : Env} {t : Int} {ch : Bool} {v : Value} {aa : List Att} (h : Arr Γ (AttC Γ) v aa) : NodC Γ ⟨t, ch, false, aa⟩ (nodV t ch v) := ⟨v, rfl, h⟩
theorem NodC.one {Γ : Env} {x : Nod} {c : List Value} (h : NodC Γ x c) : ∀ y ∈ c, y.oneCell' = true := by
 obtain ⟨v, rfl, a, cap, cells, rfl, -⟩ := h
 intro y hy
 simp only [List.mem_cons, List.not_mem_nil, or_false] at hy
 rcases hy with rfl | rfl | rfl | rfl <;> rfl
theorem LisC.one2 {α : Type} {Pp : α → List Value → Prop} (hP : ∀ x c, Pp x c → ∀ y ∈ c, y.oneCell' = true) : ∀ {xs : List α} {cs : List Value}, LisC Pp xs cs → ∀ y ∈ cs, y.oneCell' = true
 | [], _, h, y, hy => by cases h; simp at hy
 | x :: xs, _, ⟨c1, c2, rfl, h2, h3⟩, y, hy => by
  rcases List.mem_append.1 hy with h | h
  ·exact hP x c1 h2 y h
  ·exact LisC.one2 hP h3 y h
theorem ofT_len {l : Lay} {pl : List Int} {n : Int} : (ofT l pl n).length ≤ 1 := by unfold ofT; split <;> simp
theorem arr_nil {Γ : Env} : Arr Γ (AttC Γ) nilS [] := ⟨none, 0, [], rfl, Nat.le_refl _, fun _ _ h => by simp at h, rfl⟩
theorem defK_len {l : Lay} {pl : List Int} {d : Df} {n i : Nat} (hd : OkDf n i d) : (defK l pl d).length ≤ 50 := by
 have h1 := hd.d0.meml
 have h2 := hd.d0.parl
 have h3 := hd.d0.conl
 have h4 := hd.d0.cntl
 unfold defK
 split
 ·simpa using h1
 ·split
  ·simp only [List.length_map]; omega
  ·split
   ·simpa using h3
   ·split
    ·simpa using h2
    ·simp
theorem defNodes_ok {Γ : Env} {H : List Blk} {l : Lay} {d : Df} {c : List Value} {vp : Value} {pl : List Int} {i : Nat} (hdc : DfC Γ d c) (hP : Arr Γ NumC vp pl) (hd : OkDf pl.length i d) :
  Spc Tryz.prog 34 #[layV l, .agg c.toArray, vp] Γ H (fun v Γ' H' => ∃ Hs ces, Ow 4 v (defN l pl d).length ces Hs ∧ LisC (NodC Γ') (defN l pl d) ces ∧ H' = Hs ++ H) := by
 obtain ⟨w1, w2, w3, w4, rfl, ⟨ac, capc, cellsc, rfl, hcapc, hAc, hLc⟩, ⟨am, capm, cellsm, rfl, hcapm, hAm, hLm⟩, ⟨ap, capp, cellsp, rfl, hcapp, hAp, hLp⟩, ⟨ak, capk, cellsk, rfl, hcapk, hAk, hLk⟩⟩ := hdc
 have hPP := hP
 obtain ⟨avp, capvp, cellsvp, rfl, hcapvp, hAvp, hLvp⟩ := hP
 obtain ⟨hw0, hw2, -⟩ := hd.d2
 refine Spc.body3 Tryz.func34 rfl Tryz.ntmps34 rfl ?_
 refine WC.seq ?_
 refine WC.region ?_
 (refine WL.box rfl spi_ rfl ?_; intro b3)
 (refine WL.box rfl spi_ rfl ?_; intro b4)
 refine gz_ ?_
 refine WL.call rfl Tryz.call47 rfl rfl (by exact (ofType_ok hPP hd.d0.of1)) ?_
 rintro vof _ _ - ⟨rfl, Hof, howf, rfl⟩
 obtain ⟨ao, co, rfl⟩ := Ow.shape howf
 refine gz_ ?_
 (refine WL.alloc tab_ok rfl rfl ?_; intro b8)
 refine gz_ ?_
 (refine WL.lit tab_ok rfl rfl rfl rfl rfl rfl rfl spi_ rfl ?_; intro b9)
 refine gs_ ?_
 refine WE.then_ ?_
 refine WC.seq ?_
 refine WC.cutM (fun R' Γ' H' => ∃ va vch ces Hs, R' = [(8, .pointer (some ⟨b8, 0, none⟩)), (9, vch)] ∧ Γ.le Γ' ∧ H' = Hs ++ ((b8, cel (nodV (defTag d) false va) 102) :: H) ∧ Arr Γ' (AttC Γ') va (defA l pl d) ∧ Ow 4 vch (defK l pl d).length ces Hs ∧ LisC (NodC Γ') (defK l pl d) ces) ?_ ?_
 ·refine gz_ ?_
  by_cases e9 : d.kind = 9
  ·have et : defTag d = 15 := by simp [defTag, e9]
   have ea : defA l pl d = ofT l pl d.of := by simp [defA, e9]
   have ek : defK l pl d = [] := by simp [defK, e9]
   rw [et, ea, ek]
   refine WC.condT rfl (beq_iff_eq.2 e9) ?_
   refine gz_ ?_
   refine WE.keep howf tk_ (fun Γ1 hle1 him => ?_)
   exact WE.mid ⟨_, _, [], [(b9, cel [] 102)], rfl, hle1, rfl, Im.arr him (attsW_lis ofT_S), Ow.lit (s := 4) (k := 0) (l := []) rfl, rfl⟩ sr_ sn_
  refine WC.condF rfl (beq_eq_false_iff_ne.2 e9) ?_
  refine gz_ ?_
  by_cases e12 : d.kind = 12
  ·have et : defTag d = 22 := by simp [defTag, e12]
   have ea : defA l pl d = nameA d.name :: ofT l pl d.of := by simp [defA, e12]
   have ek : defK l pl d = [] := by simp [defK, e12]
   rw [et, ea, ek]
   refine WC.condT rfl (beq_iff_eq.2 e12) ?_
   refine gz_ ?_
   refine WL.call rfl Tryz.call48 rfl rfl (by exact name_ok) ?_
   rintro _ _ _ - ⟨rfl, rfl, rfl⟩
   refine gz_ ?_
   (refine WL.lit tab_ok rfl rfl rfl rfl rfl rfl rfl spi_ rfl ?_; intro bl)
   refine gz_ ?_
   refine WL.append tab_ok rfl rfl rfl rfl rfl rfl rfl rfl (Ow.lit (s := 6) (b := bl) (k := 1) (l := attsW [nameA d.name]) (T := 142) rfl) t1_ (howf.src tab_ok rfl tk_ attsW_one) (by have := ofT_len (l := l) (pl := pl) (n := d.of); omega) (by have := ofT_len (l := l) (pl := pl) (n := d.of); omega) (fun v2 Hs2 how2 => ?_)
   rw [← attsW_append, Nat.add_comm] at how2
   obtain ⟨a2, c2, rfl⟩ := Ow.shape how2
   refine gz_ ?_
   refine WE.keep how2 tk_ (fun Γ1 hle1 him => ?_)
   exact WE.mid ⟨_, _, [], [(b9, cel [] 102)], rfl, hle1, rfl, Im.arr (xs := nameA d.name :: ofT l pl d.of) him (attsW_lis (fun a ha => by rcases List.mem_cons.1 ha with rfl | ha; exact nameA_S _; exact ofT_S a ha)), Ow.lit (s := 4) (k := 0) (l := []) rfl, rfl⟩ sr_ sn_
  refine WC.condF rfl (beq_eq_false_iff_ne.2 e12) ?_
  refine gz_ ?_
  by_cases e13 : d.kind = 13
  ·have et : defTag d = tagQ d.which := by simp [defTag, e13]
   have ea : defA l pl d = ofT l pl d.of := by simp [defA, e13]
   have ek : defK l pl d = [] := by simp [defK, e13]
   rw [et, ea, ek]
   refine WC.condT rfl (beq_iff_eq.2 e13) ?_
   refine gz_ ?_
   (refine WL.lit tab_ok rfl rfl rfl rfl rfl rfl rfl spi_ rfl ?_; intro bw)
   have hwc : d.which = 0 ∨ d.which = 1 ∨ d.which = 2 := by omega
   rcases hwc with ew | ew | ew
   all_goals
    rw [ew]
    refine gz_ ?_
    refine WE.keep howf tk_ (fun Γ1 hle1 him => ?_)
    exact WE.mid ⟨_, _, [], [(b9, cel [] 102)], rfl, hle1, rfl, Im.arr him (attsW_lis ofT_S), Ow.lit (s := 4) (k := 0) (l := []) rfl, rfl⟩ sr_ sn_
  refine WC.condF rfl (beq_eq_false_iff_ne.2 e13) ?_
  refine gz_ ?_
  by_cases e16 : d.kind = 16
  ·have et : defTag d = 59 := by simp [defTag, e16]
   have ea : defA l pl d = [nameA d.name] := by simp [defA, e16]
   have ek : defK l pl d = [] := by simp [defK, e16]
   rw [et, ea, ek]
   refine WC.condT rfl (beq_iff_eq.2 e16) ?_
   refine gz_ ?_
   refine WL.call rfl Tryz.call48 rfl rfl (by exact name_ok) ?_
   rintro _ _ _ - ⟨rfl, rfl, rfl⟩
   refine gz_ ?_
   (refine WL.lit tab_ok rfl rfl rfl rfl rfl rfl rfl spi_ rfl ?_; intro bl)
   refine gz_ ?_
   refine WE.keep (Ow.lit (s := 6) (b := bl) (k := 1) (l := attsW [nameA d.name]) (T := 142) rfl) t1_ (fun Γ1 hle1 him => ?_)
   exact WE.mid ⟨_, _, [], [(b9, cel [] 102)], rfl, hle1, rfl, Im.arr (xs := [nameA d.name]) him (attsW_lis (fun a ha => by rcases List.mem_singleton.1 ha with rfl; exact nameA_S _)), Ow.lit (s := 4) (k := 0) (l := []) rfl, rfl⟩ sr_ sn_
  refine WC.condF rfl (beq_eq_false_iff_ne.2 e16) ?_
  refine gz_ ?_
  by_cases e10 : d.kind = 10
  ·have et : defTag d = tagSt d.which := by simp [defTag, e10]
   have ea : defA l pl d = [nameA d.name, if d.inc then incA else plainA 11 d.size] := by simp [defA, e10]
   have ek : defK l pl d = d.mems.map (memN l pl) := by simp [defK, e10]
   have g1 := hd.d0.meml
   rw [et, ea, ek]
   refine WC.condT rfl (beq_iff_eq.2 e10) ?_
   refine WC.seq ?_
   refine WC.cutM (fun R' Γ' H' => R' = [(2, .slice avp pl.length capvp), (3, .pointer (some ⟨b3, 0, none⟩)), (4, .pointer (some ⟨b4, 0, none⟩)), (8, .pointer (some ⟨b8, 0, none⟩)), (9, .slice (some ⟨b9, 0, none⟩) 0 0)] ∧ Γ = Γ' ∧ ∃ bl, H' = (bl, cel (attsW [nameA d.name]) 142) :: (b8, cel (nodV (tagSt d.which) false (.slice (some ⟨bl, 0, none⟩) 1 1)) 102) :: (b9, cel [] 102) :: (b4, cel [.int .i64 d.kind, .string d.name, .int .i64 d.which, .int .i64 d.size, .int .i64 d.of, .slice ac d.cnts.length capc, .bool d.upper, .bool d.inc, .slice am d.mems.length capm, .slice ap d.pars.length capp, .slice ak d.cons.length capk] 49) :: (b3, cel [.int .i64 l.vers, .bool l.wide, .int .i64 l.size, .bool l.big, .bool l.far] 23) :: H) ?_ ?_
   ·have hwc : d.which = 0 ∨ d.which = 1 ∨ d.which = 2 := by omega
    rcases hwc with ew | ew | ew
    all_goals
     rw [ew]
     refine WC.draw 10 (.take 1 (.take 2 (.take 5 (.take 6 (.two 0 7 (.take 3 (.two 4 7 (.one 7 (.one 8 (.take 9 (.one 10 .done)))) (.two 4 8 (.one 8 (.take 9 (.one 10 .done))) (.one 4 (.take 9 (.one 10 .done)))))) (.two 0 8 (.take 3 (.two 4 8 (.one 8 (.take 9 (.one 10 .done))) (.one 4 (.take 9 (.one 10 .done))))) (.one 0 (.take 3 (.one 4 (.take 9 (.one 10 .done))))))))))) ((b4, _) :: []) mixed xsb_ (by decide +kernel) ?_
     repeat' (first | (refine WD.g ?_; first | refine WD.one rfl ?_ | refine WD.done ?_ | (refine WD.gTake ?_; first | refine WD.run tab_ok np_ rfl rfl ?_ | (refine WD.at_ rfl ?_; (first | (refine WT.gLoad ?_; first | refine WT.load np_ rfl rfl (by first | exact Ld.own tab_ok rfl rfl pk_ rfl | exact Ld.ownA tab_ok rfl rfl pk_ cut_ | exact Ld.imm tab_ok rfl rfl (by assumption) | exact Ld.rd tab_ok rfl rfl (by (repeat (first | assumption | apply Rd.cons)); (first | done | fail)) | exact Ld.immA tab_ok rfl rfl (by assumption) rfl) ?_ | refine WT.loadG np_ rfl rfl rfl (by first | exact Ld.own tab_ok rfl rfl pk_ rfl | exact Ld.ownA tab_ok rfl rfl pk_ cut_ | exact Ld.imm tab_ok rfl rfl (by assumption) | exact Ld.rd tab_ok rfl rfl (by (repeat (first | assumption | apply Rd.cons)); (first | done | fail)) | exact Ld.immA tab_ok rfl rfl (by assumption) rfl) ?_) | (refine WT.gIdx ?_; first | refine WT.idx tab_ok np_ rfl rfl rfl rfl rfl (by omega) (by omega) ?_ | refine WT.idxG tab_ok np_ rfl rfl rfl rfl rfl rfl (by omega) (by omega) ?_) | (refine WT.gSlice ?_; refine WT.slLo tab_ok np_ rfl rfl rfl rfl rfl (by omega) (by omega) (by omega) ?_) | (refine WT.gBuild ?_; refine WT.build tab_ok np_ rfl rfl spi_ ?_) | refine WT.pure tab_ok np_ rfl rfl ?_ | refine WT.pureG tab_ok np_ rfl rfl rfl ?_ | refine WT.noG np_ rfl rfl rfl ?_)))) | (refine WL.g ?_; first | refine WL.nil ?_ | refine WL.run tab_ok rfl rfl ?_ | (refine WL.gLoad ?_; first | refine WL.ld tab_ok rfl rfl rfl pk_ rfl rfl ?_ | refine WL.ldA tab_ok rfl rfl rfl pk_ cut_ rfl ?_ | refine WL.ldI tab_ok rfl rfl rfl (by assumption) rfl ?_ | refine WL.ldR tab_ok rfl rfl rfl (by (repeat (first | assumption | apply Rd.cons)); (first | done | fail)) rfl ?_ | refine WL.ldAI tab_ok rfl rfl rfl (by assumption) rfl rfl ?_) | (refine WL.gStore ?_; refine WL.st tab_ok rfl rfl rfl pk_ spl_ rfl rfl ?_) | (refine WL.gIdx ?_; refine WL.idx tab_ok rfl rfl rfl rfl (by omega) (by omega) rfl ?_) | (refine WL.gBuild ?_; refine WL.build tab_ok rfl spi_ rfl ?_) | (refine WL.gSlice ?_; first | refine WL.slLo tab_ok rfl rfl rfl rfl (by omega) (by omega) (by omega) rfl ?_ | refine WL.slHi tab_ok rfl rfl rfl rfl (by omega) (by omega) rfl ?_ | refine WL.slLH tab_ok rfl rfl rfl rfl rfl (by omega) (by omega) (by omega) rfl ?_) | (refine WL.gBin ?_; first | refine WL.pure tab_ok (evalP_shl rfl rfl (by omega)) rfl ?_ | refine WL.pure tab_ok (evalP_shr rfl rfl (by omega)) rfl ?_) | refine WL.pure tab_ok rfl rfl ?_ | (refine WL.gGuard ?_; first | refine WL.yes rfl rfl rfl ?_ | refine WL.no rfl rfl rfl rfl rfl ?_ | refine WL.noU rfl rfl rfl rfl ?_)) | (refine WE.g ?_; first | refine WE.then_ ?_ | refine WE.thenX rfl ?_ | refine WE.block_n ?_ | refine WE.block_x ?_ | refine WE.block_y rfl ?_ | refine WE.block_r ?_ | apply WE.drawnL | (apply WE.drawn; exact (by first | exact Env.le.rfl' _ | assumption); exact xsb_)) | refine WD.two rfl rfl ?_ ?_ | (refine WL.lit tab_ok rfl rfl rfl rfl rfl rfl rfl spi_ rfl ?_; intro bq) | (refine WL.call rfl Tryz.call48 rfl rfl (by exact name_ok) ?_; rintro _ _ _ - ⟨rfl, rfl, rfl⟩))
    all_goals exact WE.mid ⟨rfl, rfl, _, rfl⟩ sr_ sn_
   rintro _ _ _ ⟨rfl, rfl, bl, rfl⟩
   refine WE.then_ ?_
   refine WC.seq ?_
   refine WC.cutM (fun R' Γ' H' => ∃ a2 c2 Hs2, R' = [(2, .slice avp pl.length capvp), (3, .pointer (some ⟨b3, 0, none⟩)), (4, .pointer (some ⟨b4, 0, none⟩)), (8, .pointer (some ⟨b8, 0, none⟩)), (9, .slice (some ⟨b9, 0, none⟩) 0 0)] ∧ Γ = Γ' ∧ H' = Hs2 ++ ((b8, cel (nodV (tagSt d.which) false (.slice a2 2 c2)) 102) :: (b9, cel [] 102) :: (b4, cel [.int .i64 d.kind, .string d.name, .int .i64 d.which, .int .i64 d.size, .int .i64 d.of, .slice ac d.cnts.length capc, .bool d.upper, .bool d.inc, .slice am d.mems.length capm, .slice ap d.pars.length capp, .slice ak d.cons.length capk] 49) :: (b3, cel [.int .i64 l.vers, .bool l.wide, .int .i64 l.size, .bool l.big, .bool l.far] 23) :: H) ∧ Ow 6 (.slice a2 2 c2) 2 (attsW [nameA d.name, if d.inc then incA else plainA 11 d.size]) Hs2) ?_ ?_
   ·refine gz_ ?_
    cases hinc : d.inc
    ·refine gz_ ?_
     refine WC.draw 8 (.take 0 (.take 1 (.take 2 (.take 3 (.one 4 (.one 5 (.one 6 (.take 7 (.one 8 .done))))))))) ((b8, _) :: (b4, _) :: []) mixed xsb_ (by decide +kernel) ?_
     refine dz_ ?_
     refine WL.call rfl Tryz.call49 rfl rfl (by exact plain_ok) ?_
     rintro _ _ _ - ⟨rfl, rfl, rfl⟩
     refine dz_ ?_
     (refine WL.lit tab_ok rfl rfl rfl rfl rfl rfl rfl spi_ rfl ?_; intro bq)
     refine dz_ ?_
     refine WL.append tab_ok rfl rfl rfl rfl rfl rfl rfl rfl (Ow.lit (s := 6) (b := bl) (k := 1) (l := attsW [nameA d.name]) (T := 142) rfl) t1_ ((Ow.lit (s := 6) (b := bq) (k := 1) (l := attsW [plainA 11 d.size]) (T := 142) rfl).src tab_ok rfl t1_ attsW_one) (by omega) (by omega) (fun v2 Hs2 how2 => ?_)
     rw [← attsW_append] at how2
     obtain ⟨a2, c2, rfl⟩ := Ow.shape how2
     refine dz_ ?_
     exact WE.mid ⟨_, _, Hs2, rfl, rfl, rfl, how2⟩ sr_ sn_
    ·refine gz_ ?_
     (refine WL.lit tab_ok rfl rfl rfl rfl rfl rfl rfl spi_ rfl ?_; intro bq)
     refine gz_ ?_
     refine WL.append tab_ok rfl rfl rfl rfl rfl rfl rfl rfl (Ow.lit (s := 6) (b := bl) (k := 1) (l := attsW [nameA d.name]) (T := 142) rfl) t1_ ((Ow.lit (s := 6) (b := bq) (k := 1) (l := attsW [incA]) (T := 142) rfl).src tab_ok rfl t1_ attsW_one) (by omega) (by omega) (fun v2 Hs2 how2 => ?_)
     rw [← attsW_append] at how2
     obtain ⟨a2, c2, rfl⟩ := Ow.shape how2
     refine gz_ ?_
     exact WE.mid ⟨_, _, Hs2, rfl, rfl, rfl, how2⟩ sr_ sn_
   rintro _ _ _ ⟨a2, c2, Hs2, rfl, rfl, rfl, how2⟩
   refine WE.keep how2 tk_ (fun Γ1 hle1 him => ?_)
   have hA1 : Arr Γ1 (AttC Γ1) (.slice a2 2 c2) [nameA d.name, if d.inc then incA else plainA 11 d.size] := Im.arr (xs := [nameA d.name, if d.inc then incA else plainA 11 d.size]) him (attsW_lis fun a ha => by
    simp only [List.mem_cons, List.not_mem_nil, or_false] at ha
    rcases ha with rfl | rfl
    ·exact nameA_S _
    ·split
     ·exact ⟨rfl, rfl, by show (1 : Nat) < _; omega⟩
     ·exact plainA_S _ _)
   refine gz_ ?_
   refine WC.loopE (fun m R' Γ' H' => ∃ k v9 ces Hs, R' = [(2, .slice avp pl.length capvp), (3, .pointer (some ⟨b3, 0, none⟩)), (4, .pointer (some ⟨b4, 0, none⟩)), (8, .pointer (some ⟨b8, 0, none⟩)), (9, v9), (100, .slice am d.mems.length capm), (101, .int .i64 (d.mems.length : Int)), (102, .int .i64 ((k : Nat) : Int))] ∧ Γ1.le Γ' ∧ H' = Hs ++ ((b8, cel (nodV (tagSt d.which) false (.slice a2 2 c2)) 102) :: (b4, cel [.int .i64 d.kind, .string d.name, .int .i64 d.which, .int .i64 d.size, .int .i64 d.of, .slice ac d.cnts.length capc, .bool d.upper, .bool d.inc, .slice am d.mems.length capm, .slice ap d.pars.length capp, .slice ak d.cons.length capk] 49) :: (b3, cel [.int .i64 l.vers, .bool l.wide, .int .i64 l.size, .bool l.big, .bool l.far] 23) :: H) ∧ m = d.mems.length - k ∧ k ≤ d.mems.length ∧ Ow 4 v9 (d.mems.take k).length ces Hs ∧ LisC (NodC Γ') ((d.mems.take k).map (memN l pl)) ces)
    ⟨0, _, [], [(b9, cel [] 102)], rfl, Env.le.rfl' _, rfl, rfl, Nat.zero_le _, Ow.lit (s := 4) (k := 0) (l := []) rfl, rfl⟩ sr_ sn_ ?_
   rintro m R' Γ2 H' ⟨k, v9, ces, Hs, rfl, hle2, rfl, rfl, hkk, how9, hL9⟩
   rcases Nat.lt_or_ge k d.mems.length with hltk | hgek
   case inr =>
    have ek : k = d.mems.length := by omega
    subst ek
    refine gz_ ?_
    refine WC.condF rfl (decide_eq_false (by omega)) ?_
    refine gz_ ?_
    rw [List.take_length] at how9 hL9
    exact WE.mid ⟨_, v9, ces, Hs, rfl, hle1.trans hle2, rfl, hA1.mono hle2 fun _ _ h => h.mono hle2, by rw [List.length_map]; exact how9, hL9⟩ sr_ sn_
   obtain ⟨x, hx⟩ : ∃ x, d.mems[k]? = some x := ⟨_, List.getElem?_eq_getElem hltk⟩
   have hxl : d.mems.take (k + 1) = d.mems.take k ++ [x] := by rw [List.take_add_one, hx]; rfl
   have htl : (d.mems.take k).length = k := by rw [List.length_take]; omega
   obtain ⟨bb1, oo1, c, rfl, hPx, hc1⟩ := elemA (hAm.mono (hle1.trans hle2)) hLm (fun _ _ h => h.len) (w := 3) (by decide) hx
   cases hPx
   have hwi : IntKind.i64.wrap ((k : Int) + 1) = (k : Int) + 1 := w_i64 (by omega) (by omega)
   obtain ⟨a9, c9, rfl⟩ := Ow.shape how9
   refine gz_ ?_
   refine WC.condT rfl tr_ ?_
   refine gz_ ?_
   (refine WL.alloc tab_ok rfl rfl ?_; intro b11)
   refine gz_ ?_
   refine WC.draw 10 (.take 0 (.take 1 (.take 4 (.take 5 (.take 6 (.take 7 (.one 2 (.two 3 8 (.one 8 (.one 9 (.one 10 .done))) (.one 3 (.one 9 (.one 10 .done))))))))))) ((b11, _) :: (b3, _) :: []) mixed xsb_ (by decide +kernel) ?_
   have hP2 : Arr Γ2 NumC (.slice avp pl.length capvp) pl := hPP.mono (hle1.trans hle2) fun _ _ h => h
   have hof := (hd.mem k x hx).of1
   repeat' (first | (refine WD.g ?_; first | refine WD.one rfl ?_ | refine WD.done ?_ | (refine WD.gTake ?_; first | refine WD.run tab_ok np_ rfl rfl ?_ | (refine WD.at_ rfl ?_; (first | (refine WT.gLoad ?_; first | refine WT.load np_ rfl rfl (by first | exact Ld.own tab_ok rfl rfl pk_ rfl | exact Ld.ownA tab_ok rfl rfl pk_ cut_ | exact Ld.imm tab_ok rfl rfl (by assumption) | exact Ld.rd tab_ok rfl rfl (by (repeat (first | assumption | apply Rd.cons)); (first | done | fail)) | exact Ld.immA tab_ok rfl rfl (by assumption) rfl) ?_ | refine WT.loadG np_ rfl rfl rfl (by first | exact Ld.own tab_ok rfl rfl pk_ rfl | exact Ld.ownA tab_ok rfl rfl pk_ cut_ | exact Ld.imm tab_ok rfl rfl (by assumption) | exact Ld.rd tab_ok rfl rfl (by (repeat (first | assumption | apply Rd.cons)); (first | done | fail)) | exact Ld.immA tab_ok rfl rfl (by assumption) rfl) ?_) | (refine WT.gIdx ?_; first | refine WT.idx tab_ok np_ rfl rfl rfl rfl rfl (by omega) (by omega) ?_ | refine WT.idxG tab_ok np_ rfl rfl rfl rfl rfl rfl (by omega) (by omega) ?_) | (refine WT.gSlice ?_; refine WT.slLo tab_ok np_ rfl rfl rfl rfl rfl (by omega) (by omega) (by omega) ?_) | (refine WT.gBuild ?_; refine WT.build tab_ok np_ rfl rfl spi_ ?_) | refine WT.pure tab_ok np_ rfl rfl ?_ | refine WT.pureG tab_ok np_ rfl rfl rfl ?_ | refine WT.noG np_ rfl rfl rfl ?_)))) | (refine WL.g ?_; first | refine WL.nil ?_ | refine WL.run tab_ok rfl rfl ?_ | (refine WL.gLoad ?_; first | refine WL.ld tab_ok rfl rfl rfl pk_ rfl rfl ?_ | refine WL.ldA tab_ok rfl rfl rfl pk_ cut_ rfl ?_ | refine WL.ldI tab_ok rfl rfl rfl (by assumption) rfl ?_ | refine WL.ldR tab_ok rfl rfl rfl (by (repeat (first | assumption | apply Rd.cons)); (first | done | fail)) rfl ?_ | refine WL.ldAI tab_ok rfl rfl rfl (by assumption) rfl rfl ?_) | (refine WL.gStore ?_; refine WL.st tab_ok rfl rfl rfl pk_ spl_ rfl rfl ?_) | (refine WL.gIdx ?_; refine WL.idx tab_ok rfl rfl rfl rfl (by omega) (by omega) rfl ?_) | (refine WL.gBuild ?_; refine WL.build tab_ok rfl spi_ rfl ?_) | (refine WL.gSlice ?_; first | refine WL.slLo tab_ok rfl rfl rfl rfl (by omega) (by omega) (by omega) rfl ?_ | refine WL.slHi tab_ok rfl rfl rfl rfl (by omega) (by omega) rfl ?_ | refine WL.slLH tab_ok rfl rfl rfl rfl rfl (by omega) (by omega) (by omega) rfl ?_) | (refine WL.gBin ?_; first | refine WL.pure tab_ok (evalP_shl rfl rfl (by omega)) rfl ?_ | refine WL.pure tab_ok (evalP_shr rfl rfl (by omega)) rfl ?_) | refine WL.pure tab_ok rfl rfl ?_ | (refine WL.gGuard ?_; first | refine WL.yes rfl rfl rfl ?_ | refine WL.no rfl rfl rfl rfl rfl ?_ | refine WL.noU rfl rfl rfl rfl ?_)) | (refine WE.g ?_; first | refine WE.then_ ?_ | refine WE.thenX rfl ?_ | refine WE.block_n ?_ | refine WE.block_x ?_ | refine WE.block_y rfl ?_ | refine WE.block_r ?_ | apply WE.drawnL | (apply WE.drawn; exact (by first | exact Env.le.rfl' _ | assumption); exact xsb_)) | refine WD.two rfl rfl ?_ ?_ | (refine WL.lit tab_ok rfl rfl rfl rfl rfl rfl rfl spi_ rfl ?_; intro bq) | (refine WL.call rfl Tryz.call48 rfl rfl (by exact name_ok) ?_; rintro _ _ _ - ⟨rfl, rfl, rfl⟩) | (refine WL.call rfl Tryz.call47 rfl rfl (by exact (ofType_ok hP2 hof)) ?_; rintro vof2 _ _ - ⟨rfl, Hof2, howf2, rfl⟩; obtain ⟨ao2, co2, rfl⟩ := Ow.shape howf2))
   all_goals
    have hl1 := ofT_len (l := l) (pl := pl) (n := x.of)
    refine WL.append tab_ok rfl rfl rfl rfl rfl rfl rfl rfl (Ow.lit (s := 6) (b := bq) (k := 1) (l := attsW [nameA x.name]) (T := 142) rfl) t1_ (howf2.src tab_ok rfl tk_ attsW_one) (by omega) (by omega) (fun v3 Hs3 how3 => ?_)
    rw [← attsW_append] at how3
    refine dz_ ?_
    refine gz_ ?_
    refine WL.call rfl Tryz.call49 rfl rfl (by exact plain_ok) ?_
    rintro _ _ _ - ⟨rfl, rfl, rfl⟩
    refine gz_ ?_
    (refine WL.lit tab_ok rfl rfl rfl rfl rfl rfl rfl spi_ rfl ?_; intro bp)
    refine gz_ ?_
    refine WL.append tab_ok rfl rfl rfl rfl rfl rfl rfl rfl how3 tk_ ((Ow.lit (s := 6) (b := bp) (k := 1) (l := attsW [plainA 56 x.off]) (T := 142) rfl).src tab_ok rfl t1_ attsW_one) (by omega) (by omega) (fun v4 Hs4 how4 => ?_)
    rw [← attsW_append] at how4
    have how4' : Ow 6 v4 (nameA x.name :: ofT l pl x.of ++ [plainA 56 x.off]).length (attsW (nameA x.name :: ofT l pl x.of ++ [plainA 56 x.off])) Hs4 := by
     have e : (nameA x.name :: ofT l pl x.of ++ [plainA 56 x.off]).length = 1 + (ofT l pl x.of).length + 1 := by simp; omega
     rw [e]; exact how4
    obtain ⟨a4, c4, rfl⟩ := Ow.shape how4'
    refine WL.keep how4' tk_ (fun Γ3 hle3 him4 => ?_)
    have hA4 : Arr Γ3 (AttC Γ3) _ (nameA x.name :: ofT l pl x.of ++ [plainA 56 x.off]) := Im.arr him4 (attsW_lis fun a ha => by
     rcases List.mem_append.1 ha with ha | ha
     ·rcases List.mem_cons.1 ha with rfl | ha
      ·exact nameA_S _
      ·exact ofT_S a ha
     ·rcases List.mem_singleton.1 ha with rfl; exact plainA_S _ _)
    refine gz_ ?_
    (refine WL.lit tab_ok rfl rfl rfl rfl rfl rfl rfl spi_ rfl ?_; intro bn)
    refine gz_ ?_
    refine WL.append tab_ok rfl rfl rfl rfl rfl rfl rfl rfl how9 tk_ ((Ow.lit (s := 4) (b := bn) (k := 1) (l := nodV 13 false _) (T := 102) rfl).src tab_ok rfl t1_ (NodC.one (nodV_C (ch := false) (t := 13) hA4))) (by omega) (by omega) (fun v5 Hs5 how5 => ?_)
    refine gz_ ?_
    exact WE.again ⟨k + 1, _, _, Hs5, rfl, hle2.trans hle3, rfl, rfl, hltk, by rw [hxl, List.length_append]; exact how5, by rw [hxl, List.map_append]; exact LisC.append (hL9.imp fun _ _ h => h.mono hle3) (LisC.one (nodV_C hA4))⟩ (by omega) ⟨rfl, rfl, rfl, rfl, rfl, rfl, rfl, congrArg (fun z => some (Value.int .i64 z)) hwi, trivial⟩ sn_
  refine WC.condF rfl (beq_eq_false_iff_ne.2 e10) ?_
  refine gz_ ?_
  by_cases e11 : d.kind = 11
  ·have et : defTag d = 1 := by simp [defTag, e11]
   have ea : defA l pl d = ofT l pl d.of := by simp [defA, e11]
   have ek : defK l pl d = d.cnts.map (cntN d.upper) := by simp [defK, e11]
   have g1 := hd.d0.cntl
   rw [et, ea, ek]
   refine WC.condT rfl (beq_iff_eq.2 e11) ?_
   refine gz_ ?_
   refine WC.keep howf tk_ (fun Γ1 hle1 him => ?_)
   have hA1 : Arr Γ1 (AttC Γ1) _ (ofT l pl d.of) := Im.arr him (attsW_lis ofT_S)
   refine gz_ ?_
   refine WC.loopE (fun m R' Γ' H' => ∃ k v9 ces Hs, R' = [(2, .slice avp pl.length capvp), (3, .pointer (some ⟨b3, 0, none⟩)), (4, .pointer (some ⟨b4, 0, none⟩)), (8, .pointer (some ⟨b8, 0, none⟩)), (9, v9), (132, .slice ac d.cnts.length capc), (133, .int .i64 (d.cnts.length : Int)), (134, .int .i64 ((k : Nat) : Int))] ∧ Γ1.le Γ' ∧ H' = Hs ++ ((b8, cel (nodV 1 false (.slice ao (ofT l pl d.of).length co)) 102) :: (b4, cel [.int .i64 d.kind, .string d.name, .int .i64 d.which, .int .i64 d.size, .int .i64 d.of, .slice ac d.cnts.length capc, .bool d.upper, .bool d.inc, .slice am d.mems.length capm, .slice ap d.pars.length capp, .slice ak d.cons.length capk] 49) :: (b3, cel [.int .i64 l.vers, .bool l.wide, .int .i64 l.size, .bool l.big, .bool l.far] 23) :: H) ∧ m = d.cnts.length - k ∧ k ≤ d.cnts.length ∧ Ow 4 v9 (d.cnts.take k).length ces Hs ∧ LisC (NodC Γ') ((d.cnts.take k).map (cntN d.upper)) ces)
    ⟨0, _, [], [(b9, cel [] 102)], rfl, Env.le.rfl' _, rfl, rfl, Nat.zero_le _, Ow.lit (s := 4) (k := 0) (l := []) rfl, rfl⟩ sr_ sn_ ?_
   rintro m R' Γ2 H' ⟨k, v9, ces, Hs, rfl, hle2, rfl, rfl, hkk, how9, hL9⟩
   rcases Nat.lt_or_ge k d.cnts.length with hltk | hgek
   case inr =>
    have ek : k = d.cnts.length := by omega
    subst ek
    refine gz_ ?_
    refine WC.condF rfl (decide_eq_false (by omega)) ?_
    refine gz_ ?_
    rw [List.take_length] at how9 hL9
    exact WE.mid ⟨_, v9, ces, Hs, rfl, hle1.trans hle2, rfl, hA1.mono hle2 fun _ _ h => h.mono hle2, by rw [List.length_map]; exact how9, hL9⟩ sr_ sn_
   obtain ⟨x, hx⟩ : ∃ x, d.cnts[k]? = some x := ⟨_, List.getElem?_eq_getElem hltk⟩
   have hxl : d.cnts.take (k + 1) = d.cnts.take k ++ [x] := by rw [List.take_add_one, hx]; rfl
   have htl : (d.cnts.take k).length = k := by rw [List.length_take]; omega
   obtain ⟨bb1, oo1, c, rfl, hPx, hc1⟩ := elemA (hAc.mono (hle1.trans hle2)) hLc (fun _ _ h => h.len) (w := 1) (by decide) hx
   cases hPx
   have hwi : IntKind.i64.wrap ((k : Int) + 1) = (k : Int) + 1 := w_i64 (by omega) (by omega)
   obtain ⟨a9, c9, rfl⟩ := Ow.shape how9
   refine gz_ ?_
   refine WC.condT rfl tr_ ?_
   refine gz_ ?_
   have hxk := hd.cnt k x hx
   have hx0 := hxk.c0
   have hx1 := hxk.c1
   obtain ⟨hc0, -⟩ := hc1
   refine gz_ ?_
   (refine WL.alloc tab_ok rfl rfl ?_; intro b15)
   refine gz_ ?_
   cases hn : decide ((0 : Int) ≤ x)
   case false =>
    have k0 := of_decide_eq_false hn
    have en : ∀ up, cntA up x = [] := fun up => by unfold cntA; rw [if_pos (by omega)]
    have hle3 : Γ2.le Γ2 := Env.le.rfl' _
    have hA4 : Arr Γ2 (AttC Γ2) nilS (cntA d.upper x) := by rw [en]; exact arr_nil
    refine gz_ ?_
    rw [hn]
    refine gz_ ?_
    (refine WL.lit tab_ok rfl rfl rfl rfl rfl rfl rfl spi_ rfl ?_; intro bn)
    refine gz_ ?_
    refine WL.append tab_ok rfl rfl rfl rfl rfl rfl rfl rfl how9 tk_ ((Ow.lit (s := 4) (b := bn) (k := 1) (l := nodV 33 false _) (T := 102) rfl).src tab_ok rfl t1_ (NodC.one (nodV_C (ch := false) (t := 33) hA4))) (by omega) (by omega) (fun v5 Hs5 how5 => ?_)
    refine gz_ ?_
    exact WE.again ⟨k + 1, _, _, Hs5, rfl, hle2.trans hle3, rfl, rfl, hltk, by rw [hxl, List.length_append]; exact how5, by rw [hxl, List.map_append]; exact LisC.append (hL9.imp fun _ _ h => h.mono hle3) (LisC.one (nodV_C hA4))⟩ (by omega) ⟨rfl, rfl, rfl, rfl, rfl, rfl, rfl, congrArg (fun z => some (Value.int .i64 z)) hwi, trivial⟩ sn_
   have k0 := of_decide_eq_true hn
   refine gz_ ?_
   cases hu : d.upper
   case false =>
    rw [hu] at hL9
    have en : cntA false x = [plainA 55 x] := by unfold cntA; rw [if_neg (by omega)]; rfl
    refine gz_ ?_
    rw [hn]
    refine gz_ ?_
    refine WL.call rfl Tryz.call49 rfl rfl (by exact plain_ok) ?_
    rintro _ _ _ - ⟨rfl, rfl, rfl⟩
    refine gz_ ?_
    (refine WL.lit tab_ok rfl rfl rfl rfl rfl rfl rfl spi_ rfl ?_; intro bp)
    refine WL.keep (Ow.lit (s := 6) (b := bp) (k := 1) (l := attsW [plainA 55 x]) (T := 142) rfl) t1_ (fun Γ3 hle3 him4 => ?_)
    have hA4 : Arr Γ3 (AttC Γ3) (.slice (some ⟨bp, 0, none⟩) 1 1) (cntA false x) := by rw [en]; exact Im.arr (xs := [plainA 55 x]) him4 (attsW_lis fun a ha => by rcases List.mem_singleton.1 ha with rfl; exact plainA_S _ _)
    refine gz_ ?_
    (refine WL.lit tab_ok rfl rfl rfl rfl rfl rfl rfl spi_ rfl ?_; intro bn)
    refine gz_ ?_
    refine WL.append tab_ok rfl rfl rfl rfl rfl rfl rfl rfl how9 tk_ ((Ow.lit (s := 4) (b := bn) (k := 1) (l := nodV 33 false _) (T := 102) rfl).src tab_ok rfl t1_ (NodC.one (nodV_C (ch := false) (t := 33) hA4))) (by omega) (by omega) (fun v5 Hs5 how5 => ?_)
    refine gz_ ?_
    exact WE.again ⟨k + 1, _, _, Hs5, rfl, hle2.trans hle3, rfl, rfl, hltk, by rw [hxl, List.length_append]; exact how5, by rw [hxl, List.map_append]; exact LisC.append (hL9.imp fun _ _ h => h.mono hle3) (LisC.one (nodV_C hA4))⟩ (by omega) ⟨rfl, rfl, rfl, rfl, rfl, rfl, rfl, congrArg (fun z => some (Value.int .i64 z)) hwi, trivial⟩ sn_
   rw [hu] at hL9
   have en : cntA true x = [plainA 47 (x - 1)] := by unfold cntA; rw [if_neg (by omega)]; rfl
   refine gz_ ?_
   rw [show IntKind.i64.wrap (x - 1) = x - 1 from w_i64 (by omega) (by omega)]
   refine WL.call rfl Tryz.call49 rfl rfl (by exact plain_ok) ?_
   rintro _ _ _ - ⟨rfl, rfl, rfl⟩
   refine gz_ ?_
   (refine WL.lit tab_ok rfl rfl rfl rfl rfl rfl rfl spi_ rfl ?_; intro bp)
   refine WL.keep (Ow.lit (s := 6) (b := bp) (k := 1) (l := attsW [plainA 47 (x - 1)]) (T := 142) rfl) t1_ (fun Γ3 hle3 him4 => ?_)
   have hA4 : Arr Γ3 (AttC Γ3) (.slice (some ⟨bp, 0, none⟩) 1 1) (cntA true x) := by rw [en]; exact Im.arr (xs := [plainA 47 (x - 1)]) him4 (attsW_lis fun a ha => by rcases List.mem_singleton.1 ha with rfl; exact plainA_S _ _)
   refine gz_ ?_
   (refine WL.lit tab_ok rfl rfl rfl rfl rfl rfl rfl spi_ rfl ?_; intro bn)
   refine gz_ ?_
   refine WL.append tab_ok rfl rfl rfl rfl rfl rfl rfl rfl how9 tk_ ((Ow.lit (s := 4) (b := bn) (k := 1) (l := nodV 33 false _) (T := 102) rfl).src tab_ok rfl t1_ (NodC.one (nodV_C (ch := false) (t := 33) hA4))) (by omega) (by omega) (fun v5 Hs5 how5 => ?_)
   refine gz_ ?_
   exact WE.again ⟨k + 1, _, _, Hs5, rfl, hle2.trans hle3, rfl, rfl, hltk, by rw [hxl, List.length_append]; exact how5, by rw [hxl, List.map_append]; exact LisC.append (hL9.imp fun _ _ h => h.mono hle3) (LisC.one (nodV_C hA4))⟩ (by omega) ⟨rfl, rfl, rfl, rfl, rfl, rfl, rfl, congrArg (fun z => some (Value.int .i64 z)) hwi, trivial⟩ sn_
  refine WC.condF rfl (beq_eq_false_iff_ne.2 e11) ?_
  refine gz_ ?_
  by_cases e14 : d.kind = 14
  ·have et : defTag d = 4 := by simp [defTag, e14]
   have ea : defA l pl d = [nameA d.name, plainA 11 d.size] := by simp [defA, e14]
   have ek : defK l pl d = d.cons.map conN := by simp [defK, e14]
   have g1 := hd.d0.conl
   rw [et, ea, ek]
   refine WC.condT rfl (beq_iff_eq.2 e14) ?_
   refine gz_ ?_
   refine WC.draw 8 (.take 0 (.take 1 (.take 3 (.take 4 (.one 2 (.one 5 (.one 6 (.take 7 (.one 8 .done))))))))) ((b4, _) :: []) mixed xsb_ (by decide +kernel) ?_
   refine dz_ ?_
   refine WL.call rfl Tryz.call48 rfl rfl (by exact name_ok) ?_
   rintro _ _ _ - ⟨rfl, rfl, rfl⟩
   refine dz_ ?_
   refine WL.call rfl Tryz.call49 rfl rfl (by exact plain_ok) ?_
   rintro _ _ _ - ⟨rfl, rfl, rfl⟩
   refine dz_ ?_
   (refine WL.lit tab_ok rfl rfl rfl rfl rfl rfl rfl spi_ rfl ?_; intro bl)
   refine WL.keep (Ow.lit (s := 6) (b := bl) (k := 2) (l := attsW [nameA d.name, plainA 11 d.size]) (T := 142) rfl) t1_ (fun Γ1 hle1 him => ?_)
   have hA1 : Arr Γ1 (AttC Γ1) _ [nameA d.name, plainA 11 d.size] := Im.arr (xs := [nameA d.name, plainA 11 d.size]) him (attsW_lis fun a ha => by
    simp only [List.mem_cons, List.not_mem_nil, or_false] at ha
    rcases ha with rfl | rfl
    ·exact nameA_S _
    ·exact plainA_S _ _)
   refine dz_ ?_
   refine gz_ ?_
   refine WC.loopE (fun m R' Γ' H' => ∃ k v9 ces Hs, R' = [(2, .slice avp pl.length capvp), (3, .pointer (some ⟨b3, 0, none⟩)), (4, .pointer (some ⟨b4, 0, none⟩)), (8, .pointer (some ⟨b8, 0, none⟩)), (9, v9), (174, .slice ak d.cons.length capk), (175, .int .i64 (d.cons.length : Int)), (176, .int .i64 ((k : Nat) : Int))] ∧ Γ1.le Γ' ∧ H' = Hs ++ ((b8, cel (nodV 4 false (.slice (some ⟨bl, 0, none⟩) 2 2)) 102) :: (b4, cel [.int .i64 d.kind, .string d.name, .int .i64 d.which, .int .i64 d.size, .int .i64 d.of, .slice ac d.cnts.length capc, .bool d.upper, .bool d.inc, .slice am d.mems.length capm, .slice ap d.pars.length capp, .slice ak d.cons.length capk] 49) :: (b3, cel [.int .i64 l.vers, .bool l.wide, .int .i64 l.size, .bool l.big, .bool l.far] 23) :: H) ∧ m = d.cons.length - k ∧ k ≤ d.cons.length ∧ Ow 4 v9 (d.cons.take k).length ces Hs ∧ LisC (NodC Γ') ((d.cons.take k).map (conN)) ces)
    ⟨0, _, [], [(b9, cel [] 102)], rfl, Env.le.rfl' _, rfl, rfl, Nat.zero_le _, Ow.lit (s := 4) (k := 0) (l := []) rfl, rfl⟩ sr_ sn_ ?_
   rintro m R' Γ2 H' ⟨k, v9, ces, Hs, rfl, hle2, rfl, rfl, hkk, how9, hL9⟩
   rcases Nat.lt_or_ge k d.cons.length with hltk | hgek
   case inr =>
    have ek : k = d.cons.length := by omega
    subst ek
    refine gz_ ?_
    refine WC.condF rfl (decide_eq_false (by omega)) ?_
    refine gz_ ?_
    rw [List.take_length] at how9 hL9
    exact WE.mid ⟨_, v9, ces, Hs, rfl, hle1.trans hle2, rfl, hA1.mono hle2 fun _ _ h => h.mono hle2, by rw [List.length_map]; exact how9, hL9⟩ sr_ sn_
   obtain ⟨x, hx⟩ : ∃ x, d.cons[k]? = some x := ⟨_, List.getElem?_eq_getElem hltk⟩
   have hxl : d.cons.take (k + 1) = d.cons.take k ++ [x] := by rw [List.take_add_one, hx]; rfl
   have htl : (d.cons.take k).length = k := by rw [List.length_take]; omega
   obtain ⟨bb1, oo1, c, rfl, hPx, hc1⟩ := elemA (hAk.mono (hle1.trans hle2)) hLk (fun _ _ h => h.len) (w := 2) (by decide) hx
   cases hPx
   have hwi : IntKind.i64.wrap ((k : Int) + 1) = (k : Int) + 1 := w_i64 (by omega) (by omega)
   obtain ⟨a9, c9, rfl⟩ := Ow.shape how9
   refine gz_ ?_
   refine WC.condT rfl tr_ ?_
   refine gz_ ?_
   (refine WL.alloc tab_ok rfl rfl ?_; intro b17)
   refine gz_ ?_
   refine WC.draw 13 (.take 0 (.take 1 (.take 2 (.take 4 (.take 5 (.take 6 (.take 7 (.one 3 (.one 8 (.take 9 (.one 10 (.one 11 (.one 12 .done))))))))))))) ((b17, _) :: []) mixed xsb_ (by decide +kernel) ?_
   refine dz_ ?_
   rw [wrap_u64n]
   refine dz_ ?_
   refine WL.call rfl Tryz.call48 rfl rfl (by exact name_ok) ?_
   rintro _ _ _ - ⟨rfl, rfl, rfl⟩
   refine dz_ ?_
   (refine WL.lit tab_ok rfl rfl rfl rfl rfl rfl rfl spi_ rfl ?_; intro bq)
   refine WL.keep (Ow.lit (s := 6) (b := bq) (k := 2) (l := attsW [nameA x.name, ⟨28, 13, false, u64n x.val, noS, []⟩]) (T := 142) rfl) t1_ (fun Γ3 hle3 him4 => ?_)
   have hA4 : Arr Γ3 (AttC Γ3) _ [nameA x.name, ⟨28, 13, false, u64n x.val, noS, []⟩] := Im.arr (xs := [nameA x.name, ⟨28, 13, false, u64n x.val, noS, []⟩]) him4 (attsW_lis fun a ha => by
    simp only [List.mem_cons, List.not_mem_nil, or_false] at ha
    rcases ha with rfl | rfl
    ·exact nameA_S _
    ·exact ⟨rfl, rfl, u64n_lt _⟩)
   refine dz_ ?_
   (refine WL.lit tab_ok rfl rfl rfl rfl rfl rfl rfl spi_ rfl ?_; intro bn)
   refine dz_ ?_
   refine WL.append tab_ok rfl rfl rfl rfl rfl rfl rfl rfl how9 tk_ ((Ow.lit (s := 4) (b := bn) (k := 1) (l := nodV 40 false _) (T := 102) rfl).src tab_ok rfl t1_ (NodC.one (nodV_C (ch := false) (t := 40) hA4))) (by omega) (by omega) (fun v5 Hs5 how5 => ?_)
   refine dz_ ?_
   refine gz_ ?_
   exact WE.again ⟨k + 1, _, _, Hs5, rfl, hle2.trans hle3, rfl, rfl, hltk, by rw [hxl, List.length_append]; exact how5, by rw [hxl, List.map_append]; exact LisC.append (hL9.imp fun _ _ h => h.mono hle3) (LisC.one (nodV_C hA4))⟩ (by omega) ⟨rfl, rfl, rfl, rfl, rfl, rfl, rfl, congrArg (fun z => some (Value.int .i64 z)) hwi, trivial⟩ sn_
  refine WC.condF rfl (beq_eq_false_iff_ne.2 e14) ?_
  refine gz_ ?_
  by_cases e15 : d.kind = 15
  ·have et : defTag d = 21 := by simp [defTag, e15]
   have ea : defA l pl d = ofT l pl d.of := by simp [defA, e15]
   have ek : defK l pl d = d.pars.map (parN l pl) := by simp [defK, e15]
   have g1 := hd.d0.parl
   rw [et, ea, ek]
   refine WC.condT rfl (beq_iff_eq.2 e15) ?_
   refine gz_ ?_
   refine WC.keep howf tk_ (fun Γ1 hle1 him => ?_)
   have hA1 : Arr Γ1 (AttC Γ1) _ (ofT l pl d.of) := Im.arr him (attsW_lis ofT_S)
   refine gz_ ?_
   refine WC.loopE (fun m R' Γ' H' => ∃ k v9 ces Hs, R' = [(2, .slice avp pl.length capvp), (3, .pointer (some ⟨b3, 0, none⟩)), (4, .pointer (some ⟨b4, 0, none⟩)), (8, .pointer (some ⟨b8, 0, none⟩)), (9, v9), (198, .slice ap d.pars.length capp), (199, .int .i64 (d.pars.length : Int)), (200, .int .i64 ((k : Nat) : Int))] ∧ Γ1.le Γ' ∧ H' = Hs ++ ((b8, cel (nodV 21 false (.slice ao (ofT l pl d.of).length co)) 102) :: (b4, cel [.int .i64 d.kind, .string d.name, .int .i64 d.which, .int .i64 d.size, .int .i64 d.of, .slice ac d.cnts.length capc, .bool d.upper, .bool d.inc, .slice am d.mems.length capm, .slice ap d.pars.length capp, .slice ak d.cons.length capk] 49) :: (b3, cel [.int .i64 l.vers, .bool l.wide, .int .i64 l.size, .bool l.big, .bool l.far] 23) :: H) ∧ m = d.pars.length - k ∧ k ≤ d.pars.length ∧ Ow 4 v9 (d.pars.take k).length ces Hs ∧ LisC (NodC Γ') ((d.pars.take k).map (parN l pl)) ces)
    ⟨0, _, [], [(b9, cel [] 102)], rfl, Env.le.rfl' _, rfl, rfl, Nat.zero_le _, Ow.lit (s := 4) (k := 0) (l := []) rfl, rfl⟩ sr_ sn_ ?_
   rintro m R' Γ2 H' ⟨k, v9, ces, Hs, rfl, hle2, rfl, rfl, hkk, how9, hL9⟩
   rcases Nat.lt_or_ge k d.pars.length with hltk | hgek
   case inr =>
    have ek : k = d.pars.length := by omega
    subst ek
    refine gz_ ?_
    refine WC.condF rfl (decide_eq_false (by omega)) ?_
    refine gz_ ?_
    rw [List.take_length] at how9 hL9
    exact WE.mid ⟨_, v9, ces, Hs, rfl, hle1.trans hle2, rfl, hA1.mono hle2 fun _ _ h => h.mono hle2, by rw [List.length_map]; exact how9, hL9⟩ sr_ sn_
   obtain ⟨x, hx⟩ : ∃ x, d.pars[k]? = some x := ⟨_, List.getElem?_eq_getElem hltk⟩
   have hxl : d.pars.take (k + 1) = d.pars.take k ++ [x] := by rw [List.take_add_one, hx]; rfl
   have htl : (d.pars.take k).length = k := by rw [List.length_take]; omega
   obtain ⟨bb1, oo1, c, rfl, hPx, hc1⟩ := elemA (hAp.mono (hle1.trans hle2)) hLp (fun _ _ h => h.len) (w := 1) (by decide) hx
   cases hPx
   have hwi : IntKind.i64.wrap ((k : Int) + 1) = (k : Int) + 1 := w_i64 (by omega) (by omega)
   obtain ⟨a9, c9, rfl⟩ := Ow.shape how9
   refine gz_ ?_
   refine WC.condT rfl tr_ ?_
   refine gz_ ?_
   obtain ⟨hc0, -⟩ := hc1
   refine gz_ ?_
   cases hn : (x == -3)
   case true =>
    have k0 := eq_of_beq hn
    have en : parN l pl x = ⟨24, false, false, []⟩ := by unfold parN; rw [if_pos k0]
    have hle3 : Γ2.le Γ2 := Env.le.rfl' _
    have hA4 : Arr Γ2 (AttC Γ2) nilS [] := arr_nil
    refine gz_ ?_
    (refine WL.lit tab_ok rfl rfl rfl rfl rfl rfl rfl spi_ rfl ?_; intro bn)
    refine gz_ ?_
    refine WL.append tab_ok rfl rfl rfl rfl rfl rfl rfl rfl how9 tk_ ((Ow.lit (s := 4) (b := bn) (k := 1) (l := nodV 24 false _) (T := 102) rfl).src tab_ok rfl t1_ (NodC.one (nodV_C (ch := false) (t := 24) hA4))) (by omega) (by omega) (fun v5 Hs5 how5 => ?_)
    refine gz_ ?_
    exact WE.again ⟨k + 1, _, _, Hs5, rfl, hle2.trans hle3, rfl, rfl, hltk, by rw [hxl, List.length_append]; exact how5, by rw [hxl, List.map_append]; exact LisC.append (hL9.imp fun _ _ h => h.mono hle3) (LisC.one (by rw [en]; exact nodV_C hA4))⟩ (by omega) ⟨rfl, rfl, rfl, rfl, rfl, rfl, rfl, congrArg (fun z => some (Value.int .i64 z)) hwi, trivial⟩ sn_
   have k0 := ne_of_beq_false hn
   have en : parN l pl x = ⟨5, false, false, ofT l pl x⟩ := by unfold parN; rw [if_neg k0]
   have hP2 : Arr Γ2 NumC (.slice avp pl.length capvp) pl := hPP.mono (hle1.trans hle2) fun _ _ h => h
   have hxp := hd.par x (List.mem_of_getElem? hx)
   refine gz_ ?_
   refine WL.call rfl Tryz.call47 rfl rfl (by exact (ofType_ok hP2 (by omega))) ?_
   rintro vof2 _ _ - ⟨rfl, Hof2, howf2, rfl⟩
   obtain ⟨ao2, co2, rfl⟩ := Ow.shape howf2
   refine WL.keep howf2 tk_ (fun Γ3 hle3 him4 => ?_)
   have hA4 : Arr Γ3 (AttC Γ3) _ (ofT l pl x) := Im.arr him4 (attsW_lis ofT_S)
   refine gz_ ?_
   (refine WL.lit tab_ok rfl rfl rfl rfl rfl rfl rfl spi_ rfl ?_; intro bn)
   refine gz_ ?_
   refine WL.append tab_ok rfl rfl rfl rfl rfl rfl rfl rfl how9 tk_ ((Ow.lit (s := 4) (b := bn) (k := 1) (l := nodV 5 false _) (T := 102) rfl).src tab_ok rfl t1_ (NodC.one (nodV_C (ch := false) (t := 5) hA4))) (by omega) (by omega) (fun v5 Hs5 how5 => ?_)
   refine gz_ ?_
   exact WE.again ⟨k + 1, _, _, Hs5, rfl, hle2.trans hle3, rfl, rfl, hltk, by rw [hxl, List.length_append]; exact how5, by rw [hxl, List.map_append]; exact LisC.append (hL9.imp fun _ _ h => h.mono hle3) (LisC.one (by rw [en]; exact nodV_C hA4))⟩ (by omega) ⟨rfl, rfl, rfl, rfl, rfl, rfl, rfl, congrArg (fun z => some (Value.int .i64 z)) hwi, trivial⟩ sn_
  refine WC.condF rfl (beq_eq_false_iff_ne.2 e15) ?_
  refine gz_ ?_
  have et : defTag d = 36 := by simp [defTag, e9, e12, e13, e16, e10, e11, e14, e15]
  have ea : defA l pl d = [nameA d.name, ⟨62, 11, false, u64n d.kind, noS, []⟩, plainA 11 d.size] := by simp [defA, e9, e12, e13, e16, e10, e11, e14, e15]
  have ek : defK l pl d = [] := by simp [defK, e10, e11, e14, e15]
  rw [et, ea, ek]
  refine WC.draw 12 (.take 0 (.take 1 (.take 3 (.take 4 (.take 5 (.take 6 (.take 7 (.take 8 (.one 2 (.one 9 (.one 10 (.take 11 (.one 12 .done))))))))))))) ((b4, _) :: []) mixed xsb_ (by decide +kernel) ?_
  refine dz_ ?_
  rw [wrap_u64n]
  refine dz_ ?_
  refine WL.call rfl Tryz.call48 rfl rfl (by exact name_ok) ?_
  rintro _ _ _ - ⟨rfl, rfl, rfl⟩
  refine dz_ ?_
  refine WL.call rfl Tryz.call49 rfl rfl (by exact plain_ok) ?_
  rintro _ _ _ - ⟨rfl, rfl, rfl⟩
  refine dz_ ?_
  (refine WL.lit tab_ok rfl rfl rfl rfl rfl rfl rfl spi_ rfl ?_; intro bl)
  refine WL.keep (Ow.lit (s := 6) (b := bl) (k := 3) (l := attsW [nameA d.name, ⟨62, 11, false, u64n d.kind, noS, []⟩, plainA 11 d.size]) (T := 142) rfl) t1_ (fun Γ1 hle1 him => ?_)
  have hA1 : Arr Γ1 (AttC Γ1) _ [nameA d.name, ⟨62, 11, false, u64n d.kind, noS, []⟩, plainA 11 d.size] := Im.arr (xs := [nameA d.name, ⟨62, 11, false, u64n d.kind, noS, []⟩, plainA 11 d.size]) him (attsW_lis fun a ha => by
   simp only [List.mem_cons, List.not_mem_nil, or_false] at ha
   rcases ha with rfl | rfl | rfl
   ·exact nameA_S _
   ·exact ⟨rfl, rfl, u64n_lt _⟩
   ·exact plainA_S _ _)
  refine dz_ ?_
  exact WE.mid ⟨_, _, [], [(b9, cel [] 102)], rfl, hle1, rfl, hA1, Ow.lit (s := 4) (k := 0) (l := []) rfl, rfl⟩ sr_ sn_
 rintro _ Γ1 _ ⟨va, vch, ces, Hs, rfl, hle, rfl, hAA, how, hLK⟩
 have hAA' := hAA
 obtain ⟨aa, capa, cella, rfl, -⟩ := hAA
 obtain ⟨a9, c9, rfl⟩ := Ow.shape how
 refine gz_ ?_
 (refine WL.lit tab_ok rfl rfl rfl rfl rfl rfl rfl spi_ rfl ?_; intro b20)
 refine gz_ ?_
 have hkl := defK_len (l := l) (pl := pl) hd
 unfold defN
 cases ek : defK l pl d with
 | nil =>
  refine gz_ ?_
  refine WE.re (H2 := [(b20, cel (nodV (defTag d) false (.slice aa (defA l pl d).length capa)) 102)] ++ H) sn_ ?_
  exact end_1 rfl rfl hle ⟨_, _, Ow.lit (s := 4) (k := 1) (b := b20) (T := 102) (l := nodV (defTag d) false (.slice aa (defA l pl d).length capa)) rfl, LisC.one (nodV_C hAA'), rfl⟩
 | cons y ys =>
  rw [ek] at how hLK hkl
  refine WC.condT rfl (decide_eq_true (by simp only [List.length_cons]; omega)) ?_
  refine gz_ ?_
  refine WL.append tab_ok rfl rfl rfl rfl rfl rfl rfl rfl (Ow.lit (s := 4) (k := 1) (b := b20) (T := 102) (l := nodV (defTag d) true (.slice aa (defA l pl d).length capa)) rfl) t1_ (how.src tab_ok rfl tk_ (LisC.one2 (fun _ _ h => h.one) hLK)) (by omega) (by omega) (fun v5 Hs5 how5 => ?_)
  refine gz_ ?_
  (refine WL.lit tab_ok rfl rfl rfl rfl rfl rfl rfl spi_ rfl ?_; intro bn)
  refine gz_ ?_
  refine WL.append tab_ok rfl rfl rfl rfl rfl rfl rfl rfl how5 tk_ ((Ow.lit (s := 4) (b := bn) (k := 1) (l := nodV 0 false nilS) (T := 102) rfl).src tab_ok rfl t1_ (NodC.one (nodV_C (Γ := Γ1) (ch := false) (t := 0) arr_nil))) (by omega) (by omega) (fun v6 Hs6 how6 => ?_)
  refine gz_ ?_
  refine WE.re (H2 := Hs6 ++ H) sn_ ?_
  have e : (⟨defTag d, true, false, defA l pl d⟩ :: ((y :: ys) ++ [nulN]) : List Nod).length = 1 + (y :: ys).length + 1 := by simp; omega
  refine end_1 rfl rfl hle ⟨Hs6, _, (by show Ow 4 v6 (⟨defTag d, true, false, defA l pl d⟩ :: ((y :: ys) ++ [nulN]) : List Nod).length _ Hs6; rw [e]; exact how6), ?_, rfl⟩
  exact LisC.append (xs := [⟨defTag d, true, false, defA l pl d⟩] ++ (y :: ys)) (LisC.append (LisC.one (nodV_C hAA')) hLK) (LisC.one (nodV_C arr_nil))
theorem Im.cells' {Γ : Env} {b n cap : Nat} {l : List Value} (h : Im Γ (.slice (some ⟨b, 0, none⟩) n cap) n l) : n ≤ cap ∧ ∀ k x, l[k]? = some x → Γ.cell b k = some x := by
 obtain ⟨a, c, e, hc, hA⟩ := h
 injection e with e1 e2 e3
 subst e1 e3
 refine ⟨hc, fun k x hk => ?_⟩
 obtain ⟨b', o', e, g⟩ := hA k x hk
 injection e with e; injection e with e1 e2
 subst e1 e2
 rwa [Nat.zero_add] at g
theorem byt_nil' {Γ : Env} : Byt Γ nilS [] := ⟨none, 0, rfl, Nat.le_refl _, fun i x e => by simp at e⟩
theorem text_ok {Γ : Env} {H : List Blk} {u : Uni} {v : Value} {big : Bool} (hv : Arr Γ (UniC Γ) v [u]) (hK : UniK u) (hw : wU u ≤ 1000000000) :
  Spc Tryz.prog 20 #[v, .bool big] Γ H (fun v Γ' H' => ∃ sc vf, v = .tuple #[sc, vf] ∧ SecR Γ' sc (abT [u]) (pusB big (pusU big 0 0 0 0 [u])) [] [] (strT [u]) (linT [u]) none ∧ Arr Γ' (FndC Γ' big [u]) vf [0] ∧ H' = H) := by
 have hT := hK.toUniT
 have hn1 := hT.n1
 have hl1 : [u].length = 1 := rfl
 obtain ⟨a0, cap0, cells0, rfl, hcap0, hA0, hL0⟩ := hv
 obtain ⟨b0, o0, c, rfl, hUC, hc⟩ := elemA hA0 hL0 (fun _ _ h => h.len) (w := 4) (by decide) (i := 0) rfl
 have hUC2 := hUC
 obtain ⟨vn, rfl, an, capn, celln, rfl, -⟩ := hUC
 refine Spc.body2 Tryz.func20 rfl Tryz.ntmps20 rfl ?_
 refine WC.seq ?_
 refine WC.region ?_
 (refine WL.alloc tab_ok rfl rfl ?_; intro b4)
 refine gz_ ?_
 (refine WL.alloc tab_ok rfl rfl ?_; intro b6)
 refine gz_ ?_
 (refine WL.box rfl spi_ rfl ?_; intro b7)
 refine gz_ ?_
 (refine WL.lit tab_ok rfl rfl rfl rfl rfl rfl rfl spi_ rfl ?_; intro b8)
 refine gz_ ?_
 refine WC.loop2 ?_
 refine gz_ ?_
 (refine WL.alloc tab_ok rfl rfl ?_; intro b10)
 refine gz_ ?_
 refine WL.call rfl Tryz.call35 rfl rfl (by exact (add_ok (u := u) (big := big) (ab := []) (inf := []) (ss := []) (ll := []) (Sa := []) (Si := []) (Ss := []) (Sl := []) hUC2 hT ((Pick.perm pk_).trans (List.Perm.cons _ (Pick.perm pk_))) Ow.nil Ow.nil Ow.nil Ow.nil (by simp; omega) (by simp; omega) (by simp; omega) (by simp; omega))) ?_
 rintro _ Γ5 _ hle5 ⟨ve, Se, ces, va2, vi2, vs2, vl2, Sa2, Si2, Ss2, Sl2, rfl, hve, hces, hva2, hvi2, hvs2, hvl2, rfl⟩
 obtain ⟨ae, ce, rfl⟩ := Ow.shape hve
 refine gz_ ?_
 (refine WL.lit tab_ok rfl rfl rfl rfl rfl rfl rfl spi_ rfl ?_; intro bl)
 refine gz_ ?_
 refine WL.append tab_ok rfl rfl rfl rfl rfl rfl rfl rfl (Ow.lit (s := 2) (b := b8) (k := 0) (l := []) (T := 66) rfl) t1_ ((Ow.lit (s := 2) (b := bl) (k := 1) (l := [.int .i64 ((0 : Nat) : Int), .slice ae u.nods.length ce]) (T := 66) rfl).src tab_ok rfl t1_ (fun y hy => by simp only [List.mem_cons, List.not_mem_nil, or_false] at hy; rcases hy with rfl | rfl <;> rfl)) (by omega) (by omega) (fun vf2 Sf2 hvf2 => ?_)
 rw [List.nil_append, Nat.zero_add] at hvf2
 refine gz_ ?_
 refine WE.rnd ?_
 have ea : ([] : List UInt8) ++ (encAs (absL 0 u.nods) ++ [0]) = abT [u] := by simp [abT]
 have ei : ([] : List UInt8) ++ unitE u big ([] : List UInt8).length ([] : List UInt8).length ([] : List UInt8).length ([] : List UInt8).length = pusB big (pusU big 0 0 0 0 [u]) := by
  rw [unitE_pu hT]; simp [pusU, pusB]
 have es : ([] : List UInt8) ++ textS u.nods = strT [u] := by simp [strT]
 have el : ([] : List UInt8) ++ textL u.nods = linT [u] := by simp [linT]
 rw [ea] at hva2
 rw [ei] at hvi2
 rw [es] at hvs2
 rw [el] at hvl2
 obtain ⟨aA, cA, rfl⟩ := Ow.shape hva2
 obtain ⟨aI, cI, rfl⟩ := Ow.shape hvi2
 obtain ⟨aS, cS, rfl⟩ := Ow.shape hvs2
 obtain ⟨aL, cL, rfl⟩ := Ow.shape hvl2
 refine gz_ ?_
 (refine WL.lit tab_ok rfl rfl rfl rfl rfl rfl rfl spi_ rfl ?_; intro bd)
 refine gz_ ?_
 refine WE.keep hva2 tk_ (fun Γ2 k2 m2 => ?_)
 refine WE.keep hvi2 tk_ (fun Γ3 k3 m3 => ?_)
 refine WE.keep hvs2 tk_ (fun Γ4 k4 m4 => ?_)
 refine WE.keep hvl2 tk_ (fun Γ5b k5 m5 => ?_)
 refine WE.keep (Ow.lit (s := 2) (b := bd) (k := 1) (l := [.string sLineStr, .slice aL (linT [u]).length cL]) (T := 110) rfl) t1_ (fun Γ6 k6 m6 => ?_)
 refine WE.keep hve tk_ (fun Γ7 k7 m7 => ?_)
 refine WE.keep hvf2 tk_ (fun Γ8 k8 m8 => ?_)
 obtain ⟨hc6, g6⟩ := Im.cells' m6
 have q7 := k8
 have q6 := k7.trans q7
 have q5 := k6.trans q6
 have q4 := k5.trans q5
 have q3 := k4.trans q4
 have q2 := k3.trans q3
 have q1 := k2.trans q2
 refine WE.re (H2 := (b4, cel [.slice aA (abT [u]).length cA, .slice aI (pusB big (pusU big 0 0 0 0 [u])).length cI, nilS, nilS, .slice aS (strT [u]).length cS, .slice (some ⟨bd, 0, none⟩) 1 1, nilS] 30) :: H) sn_ ?_
 refine end_ct tab_ok rfl rfl rfl rfl rfl Pick.here rfl (hle5.trans q1) ⟨_, _, rfl, ?_, ?_, rfl⟩
 ·exact ⟨_, _, _, _, _, _, rfl, (m2.mono q2).byt, (m3.mono q3).byt, byt_nil', byt_nil', (m4.mono q4).byt, ⟨bd, 1, _, q6.cell (g6 0 _ rfl), q6.cell (g6 1 _ rfl), (m5.mono q5).byt, rfl, hc6⟩⟩
 ·refine Im.arr (xs := [0]) m8 (LisC.one ⟨u, .slice ae u.nods.length ce, rfl, rfl, ?_⟩)
  have := Im.arr (xs := List.range u.nods.length) (by rw [List.length_range]; exact m7.mono q7) (hces.imp fun _ _ h => EntN.mono q1 h)
  exact this
def kidN (d : Df) : Nat := if d.kind = 10 then d.mems.length else if d.kind = 11 then d.cnts.length else if d.kind = 14 then d.cons.length else if d.kind = 15 then d.pars.length else 0
def nlen (d : Df) : Nat := if kidN d = 0 then 1 else kidN d + 2
theorem defK_length {l : Lay} {pl : List Int} {d : Df} : (defK l pl d).length = kidN d := by
 unfold defK kidN
 split
 ·simp
 ·split
  ·simp
  ·split
   ·simp
   ·split
    ·simp
    ·simp
theorem defN_length {l : Lay} {pl : List Int} {d : Df} : (defN l pl d).length = nlen d := by
 have h := defK_length (l := l) (pl := pl) (d := d)
 unfold defN nlen
 cases e : defK l pl d with
 | nil => rw [e] at h; rw [← h]; rfl
 | cons y ys => rw [e] at h; rw [← h]; simp
theorem nlen_le {n i : Nat} {d : Df} (hd : OkDf n i d) : nlen d ≤ 52 := by
 have h1 := hd.d0.meml
 have h2 := hd.d0.parl
 have h3 := hd.d0.conl
 have h4 := hd.d0.cntl
 unfold nlen kidN
 repeat' split
 all_goals omega
theorem nlen_pos (d : Df) : 0 < nlen d := by unfold nlen; split <;> omega
def topN : Nod := ⟨17, true, false, []⟩
def bodN (l : Lay) (pl : List Int) (ds : List Df) : List Nod := ds.flatMap (defN l pl)
def typeN (l : Lay) (pl : List Int) (ds : List Df) : List Nod := topN :: (bodN l pl ds ++ [nulN])
def rootsL : Nat → List Df → List Nat
 | _, [] => []
 | s, d :: ds => s :: rootsL (s + nlen d) ds
theorem rootsL_length : ∀ {ds : List Df} {s : Nat}, (rootsL s ds).length = ds.length
 | [], _ => rfl
 | d :: ds, s => by rw [rootsL, List.length_cons, rootsL_length, List.length_cons]
theorem rootsL_snoc {d : Df} : ∀ {ds : List Df} {s : Nat}, rootsL s (ds ++ [d]) = rootsL s ds ++ [s + sumBy nlen ds]
 | [], s => by simp [rootsL, sumBy]
 | x :: ds, s => by rw [List.cons_append, rootsL, rootsL_snoc, rootsL, List.cons_append]; simp only [sumBy, Nat.add_assoc]
theorem bodN_length {l : Lay} {pl : List Int} : ∀ {ds : List Df}, (bodN l pl ds).length = sumBy nlen ds
 | [] => rfl
 | d :: ds => by
  have := bodN_length (l := l) (pl := pl) (ds := ds)
  unfold bodN at this ⊢
  rw [List.flatMap_cons, List.length_append, this, defN_length]; rfl
theorem bodN_snoc {l : Lay} {pl : List Int} {ds : List Df} {d : Df} : bodN l pl (ds ++ [d]) = bodN l pl ds ++ defN l pl d := by simp [bodN]
theorem sumBy_nlen_le {n : Nat} : ∀ {ds : List Df}, (∀ d ∈ ds, ∃ i, OkDf n i d) → sumBy nlen ds ≤ 52 * ds.length
 | [], _ => Nat.le_refl _
 | d :: ds, h => by
  obtain ⟨i, hi⟩ := h d (List.mem_cons_self ..)
  have h1 := nlen_le hi
  have h2 := sumBy_nlen_le (ds := ds) fun x hx => h x (List.mem_cons_of_mem _ hx)
  simp only [sumBy, List.length_cons]; omega
def ints (l : List Nat) : List Value := l.map fun (n : Nat) => Value.int .i64 (n : Int)
theorem nints_lis : ∀ l : List Nat, LisC NumC (l.map fun (n : Nat) => (n : Int)) (ints l)
 | [] => rfl
 | n :: l => ⟨[_], _, rfl, rfl, nints_lis l⟩
theorem typeNodes_ok {Γ : Env} {H : List Blk} {l : Lay} {ds : List Df} {v vp : Value} {pl : List Int} (h : Arr Γ (DfC Γ) v ds) (hP : Arr Γ NumC vp pl) (hok : OkDs l ds) (hpl : pl.length = ds.length) :
  Spc Tryz.prog 19 #[layV l, v, vp] Γ H (fun v Γ' H' => ∃ vn vr Hs Hr ces, v = .tuple #[vn, vr] ∧ Ow 4 vn (typeN l pl ds).length ces Hs ∧ LisC (NodC Γ') (typeN l pl ds) ces ∧ Ow 1 vr (rootsL 1 ds).length (ints (rootsL 1 ds)) Hr ∧ H' = Hs ++ (Hr ++ H)) := by
 obtain ⟨a0, cap0, cells0, rfl, hcap0, hA0, hL0⟩ := h
 have hn1 := hok.n1
 have hPP := hP
 obtain ⟨avp, capvp, cellsvp, rfl, hcapvp, hAvp, hLvp⟩ := hP
 have hsum : ∀ k, sumBy nlen (ds.take k) ≤ 52 * 200 := fun k => by
  have := sumBy_nlen_le (n := ds.length) (ds := ds.take k) fun d hd => by
   obtain ⟨j, hj⟩ := List.getElem?_of_mem (List.mem_of_mem_take hd)
   exact ⟨j, hok.each j d hj⟩
  rw [List.length_take] at this; omega
 refine Spc.body3 Tryz.func19 rfl Tryz.ntmps19 rfl ?_
 refine WC.seq ?_
 refine WC.region ?_
 (refine WL.box rfl spi_ rfl ?_; intro b3)
 refine gz_ ?_
 (refine WL.lit tab_ok rfl rfl rfl rfl rfl rfl rfl spi_ rfl ?_; intro b8)
 refine gz_ ?_
 (refine WL.lit tab_ok rfl rfl rfl rfl rfl rfl rfl spi_ rfl ?_; intro b9)
 refine gz_ ?_
 refine WC.loopE (fun m R' Γ' H' => ∃ k v8 v9 ces Hs Hr, R' = [(2, .slice avp pl.length capvp), (3, .pointer (some ⟨b3, 0, none⟩)), (8, v8), (9, v9), (15, .slice a0 ds.length cap0), (16, .int .i64 (ds.length : Int)), (17, .int .i64 ((k : Nat) : Int))] ∧ Γ.le Γ' ∧ H' = Hs ++ (Hr ++ ((b3, cel [.int .i64 l.vers, .bool l.wide, .int .i64 l.size, .bool l.big, .bool l.far] 23) :: H)) ∧ m = ds.length - k ∧ k ≤ ds.length ∧
   Ow 4 v8 (1 + sumBy nlen (ds.take k)) ces Hs ∧ LisC (NodC Γ') (topN :: bodN l pl (ds.take k)) ces ∧ Ow 1 v9 k (ints (rootsL 1 (ds.take k))) Hr)
  ⟨0, _, _, nodV 17 true nilS, [(b8, cel (nodV 17 true nilS) 102)], [(b9, cel [] 3)], rfl, Env.le.rfl' _, rfl, rfl, Nat.zero_le _, Ow.lit (s := 4) (k := 1) rfl, LisC.one (nodV_C arr_nil), Ow.lit (s := 1) (k := 0) (l := []) rfl⟩ sr_ sn_ ?_
 rintro m R' Γ1 H' ⟨k, v8, v9, ces, Hs, Hr, rfl, hle, rfl, rfl, hk, how8, hL8, how9⟩
 have hsk := hsum k
 rcases Nat.lt_or_ge k ds.length with hlt | hge
 case inr =>
  have ek : k = ds.length := by omega
  subst ek
  rw [List.take_length] at how8 hL8 how9 hsk
  obtain ⟨a8, c8, rfl⟩ := Ow.shape how8
  obtain ⟨a9, c9, rfl⟩ := Ow.shape how9
  refine gz_ ?_
  refine WC.condF rfl (decide_eq_false (by omega)) ?_
  refine gz_ ?_
  (refine WL.lit tab_ok rfl rfl rfl rfl rfl rfl rfl spi_ rfl ?_; intro bn)
  refine gz_ ?_
  refine WL.append tab_ok rfl rfl rfl rfl rfl rfl rfl rfl how8 tk_ ((Ow.lit (s := 4) (b := bn) (k := 1) (l := nodV 0 false nilS) (T := 102) rfl).src tab_ok rfl t1_ (NodC.one (nodV_C (Γ := Γ1) (ch := false) (t := 0) arr_nil))) (by omega) (by omega) (fun v5 Hs5 how5 => ?_)
  refine gz_ ?_
  refine WE.re (H2 := Hs5 ++ (Hr ++ H)) sn_ ?_
  have e : (typeN l pl ds).length = 1 + sumBy nlen ds + 1 := by unfold typeN; rw [List.length_cons, List.length_append, bodN_length]; simp; omega
  refine end_2 rfl rfl rfl hle ⟨_, _, Hs5, Hr, _, rfl, by rw [e]; exact how5, ?_, by rw [rootsL_length]; exact how9, rfl⟩
  exact LisC.append (xs := topN :: bodN l pl ds) hL8 (LisC.one (nodV_C arr_nil))
 obtain ⟨a8, c8, rfl⟩ := Ow.shape how8
 obtain ⟨a9, c9, rfl⟩ := Ow.shape how9
 obtain ⟨d, hd⟩ : ∃ x, ds[k]? = some x := ⟨_, List.getElem?_eq_getElem hlt⟩
 have hxl : ds.take (k + 1) = ds.take k ++ [d] := by rw [List.take_add_one, hd]; rfl
 obtain ⟨bb, oo, c, rfl, hDC, hc⟩ := elemA (hA0.mono hle) hL0 (fun _ _ h => h.len) (w := 11) (by decide) hd
 have hDC1 := hDC.mono hle
 obtain ⟨w1, w2, w3, w4, rfl, ⟨ac, capc, cellsc, rfl, -⟩, ⟨am, capm, cellsm, rfl, -⟩, ⟨ap, capp, cellsp, rfl, -⟩, ⟨ak, capk, cellsk, rfl, -⟩⟩ := hDC
 have hwi : IntKind.i64.wrap ((k : Int) + 1) = (k : Int) + 1 := w_i64 (by omega) (by omega)
 have hdk := hok.each k d hd
 rw [← hpl] at hdk
 have hnl := nlen_le hdk
 refine gz_ ?_
 refine WC.condT rfl tr_ ?_
 refine gz_ ?_
 (refine WL.alloc tab_ok rfl rfl ?_; intro b11)
 refine gz_ ?_
 (refine WL.lit tab_ok rfl rfl rfl rfl rfl rfl rfl spi_ rfl ?_; intro bq)
 refine gz_ ?_
 refine WL.append tab_ok rfl rfl rfl rfl rfl rfl rfl rfl how9 tk_ ((Ow.lit (s := 1) (b := bq) (k := 1) (l := [.int .i64 ((1 + sumBy nlen (ds.take k) : Nat) : Int)]) (T := 3) rfl).src tab_ok rfl t1_ (fun y hy => by rw [List.mem_singleton.1 hy]; rfl)) (by omega) (by omega) (fun v5 Hs5 how5 => ?_)
 refine gz_ ?_
 refine WL.call rfl Tryz.call34 rfl rfl (by exact (defNodes_ok hDC1 (hPP.mono hle fun _ _ h => h) hdk)) ?_
 rintro vd Γ2 _ hle2 ⟨Hd, cesd, howd, hLd, rfl⟩
 refine gz_ ?_
 rw [defN_length] at howd
 refine WL.append tab_ok rfl rfl rfl rfl rfl rfl rfl rfl how8 tk_ (howd.src tab_ok rfl tk_ (LisC.one2 (fun _ _ h => h.one) hLd)) (by omega) (by omega) (fun v6 Hs6 how6 => ?_)
 refine gz_ ?_
 have e6 : sumBy nlen (ds.take (k + 1)) = sumBy nlen (ds.take k) + nlen d := by rw [hxl, sumBy_append]; simp [sumBy]
 refine WE.again ⟨k + 1, _, _, _, Hs6, Hs5, rfl, hle.trans hle2, rfl, rfl, hlt, by rw [e6, ← Nat.add_assoc]; exact how6, ?_, ?_⟩ (by omega) ⟨rfl, rfl, rfl, rfl, rfl, rfl, congrArg (fun z => some (Value.int .i64 z)) hwi, trivial⟩ sn_
 ·rw [hxl, bodN_snoc]
  exact LisC.append (xs := topN :: bodN l pl (ds.take k)) (hL8.imp fun _ _ h => h.mono hle2) hLd
 ·have e : ints (rootsL 1 (ds.take (k + 1))) = ints (rootsL 1 (ds.take k)) ++ [.int .i64 ((1 + sumBy nlen (ds.take k) : Nat) : Int)] := by
   rw [hxl, rootsL_snoc]; simp [ints]
  rw [e]; exact how5
theorem EntN.len {Γ : Env} {v : Int} {base : Nat} {pl : List Nat} {nods : List Nod} {i : Nat} {c : List Value} (h : EntN Γ v base pl nods i c) : c.length = 4 := by
 obtain ⟨_, _, _, -, -, -, h⟩ := h; exact h.len
theorem placesOf_ok {Γ : Env} {H : List Blk} {v : Int} {base : Nat} {pls : List Nat} {nods : List Nod} {ve vr : Value} {rs : List Nat} (hE : Arr Γ (EntN Γ v base pls nods) ve (List.range nods.length)) (hR : Arr Γ NumC vr (rs.map fun (n : Nat) => (n : Int)))
  (hrs : ∀ r ∈ rs, ∃ x, nods[r]? = some x ∧ x.tag ≠ 0) (hl : rs.length ≤ 2147483647) :
  Spc Tryz.prog 22 #[.agg #[.int .i64 (base : Int), ve], vr] Γ H (fun v Γ' H' => Γ = Γ' ∧ ∃ Hs, Ow 1 v rs.length (ints (rs.map fun r => pls.getD r 0)) Hs ∧ H' = Hs ++ H) := by
 obtain ⟨ae, cape, cellse, rfl, hcape, hAe, hLe⟩ := hE
 obtain ⟨ar, capr, cellsr, rfl, hcapr, hAr, hLr⟩ := hR
 rw [List.length_range] at *
 rw [List.length_map] at *
 refine Spc.body2 Tryz.func22 rfl Tryz.ntmps22 rfl ?_
 refine WC.seq ?_
 refine WC.region ?_
 (refine WL.box rfl spi_ rfl ?_; intro b2)
 refine gz_ ?_
 (refine WL.lit tab_ok rfl rfl rfl rfl rfl rfl rfl spi_ rfl ?_; intro b5)
 refine gz_ ?_
 refine WC.loopE (fun m R' Γ' H' => ∃ k v5 Hs, R' = [(2, .pointer (some ⟨b2, 0, none⟩)), (5, v5), (9, .slice ar rs.length capr), (10, .int .i64 (rs.length : Int)), (11, .int .i64 ((k : Nat) : Int))] ∧ Γ = Γ' ∧ H' = Hs ++ ((b2, cel [.int .i64 (base : Int), .slice ae nods.length cape] 66) :: H) ∧ m = rs.length - k ∧ k ≤ rs.length ∧
   Ow 1 v5 k (ints ((rs.take k).map fun r => pls.getD r 0)) Hs)
  ⟨0, _, [(b5, cel [] 3)], rfl, rfl, rfl, rfl, Nat.zero_le _, Ow.lit (s := 1) (k := 0) (l := []) rfl⟩ sr_ sn_ ?_
 rintro m R' _ H' ⟨k, v5, Hs, rfl, rfl, rfl, rfl, hk, how⟩
 rcases Nat.lt_or_ge k rs.length with hlt | hge
 case inr =>
  have ek : k = rs.length := by omega
  subst ek
  rw [List.take_length] at how
  refine gz_ ?_
  refine WC.condF rfl (decide_eq_false (by omega)) ?_
  refine gz_ ?_
  refine WE.re (H2 := Hs ++ H) sn_ ?_
  exact end_1 rfl rfl (Env.le.rfl' _) ⟨rfl, Hs, how, rfl⟩
 obtain ⟨r, hr⟩ : ∃ x, rs[k]? = some x := ⟨_, List.getElem?_eq_getElem hlt⟩
 have hxl : rs.take (k + 1) = rs.take k ++ [r] := by rw [List.take_add_one, hr]; rfl
 obtain ⟨b0, o0, rfl, hc0⟩ := numC_get hAr hLr (i := k) (z := (r : Int)) (by rw [List.getElem?_map, hr]; rfl)
 obtain ⟨x, hx, ht⟩ := hrs r (List.mem_of_getElem? hr)
 have hrl := (List.getElem?_eq_some_iff.1 hx).1
 obtain ⟨b1, o1, c, rfl, hEN, hc⟩ := elemA hAe hLe (fun _ _ h => EntN.len h) (w := 4) (by decide) (i := r) (x := r) (by rw [List.getElem?_range hrl])
 obtain ⟨x', off, nx, hx', hoff, -, hEI⟩ := hEN
 rw [hx] at hx'; injection hx' with hx'; subst hx'
 rcases hEI with ⟨h0, -⟩ | ⟨-, vf, cs, rfl, -, -⟩
 ·exact absurd h0 ht
 obtain ⟨hc1, -⟩ := hc
 have hc2 : Γ.cell b1 (o1 + ((r : Nat) : Int).toNat * 4 + 0) = some (.int .i64 (off : Int)) := hc1
 have hg : pls.getD r 0 = off := by rw [List.getD_eq_getElem?_getD, hoff]; rfl
 have hwi : IntKind.i64.wrap ((k : Int) + 1) = (k : Int) + 1 := w_i64 (by omega) (by omega)
 refine gz_ ?_
 refine WC.condT rfl tr_ ?_
 refine gz_ ?_
 (refine WL.lit tab_ok rfl rfl rfl rfl rfl rfl rfl spi_ rfl ?_; intro bq)
 refine gz_ ?_
 refine WL.append tab_ok rfl rfl rfl rfl rfl rfl rfl rfl how tk_ ((Ow.lit (s := 1) (b := bq) (k := 1) (l := [.int .i64 (off : Int)]) (T := 3) rfl).src tab_ok rfl t1_ (fun y hy => by rw [List.mem_singleton.1 hy]; rfl)) (by omega) (by omega) (fun v6 Hs6 how6 => ?_)
 refine gz_ ?_
 refine WE.again ⟨k + 1, _, Hs6, rfl, rfl, rfl, rfl, hlt, ?_⟩ (by omega) ⟨rfl, rfl, rfl, rfl, congrArg (fun z => some (Value.int .i64 z)) hwi, trivial⟩ sn_
 have e : ints ((rs.take (k + 1)).map fun r => pls.getD r 0) = ints ((rs.take k).map fun r => pls.getD r 0) ++ [.int .i64 (off : Int)] := by
  rw [hxl]; simp only [ints, List.map_append, List.map_cons, List.map_nil, hg]
 rw [e]; exact how6
set_option maxHeartbeats 4000000
section
variable {v : Int} {w : Bool} {z : Int}
theorem nameA_ok {s : ByteArray} (h : NoZero s) (hs : s.size ≤ 1024) : OkAtt v w z (nameA s) := by
 have h1 : s.data.size ≤ 4096 := by have : s.data.size = s.size := rfl; omega
 refine ⟨by simp [FormA, nameA], by simp [nameA], by simp [nameA], fun h => (by cases h), (by show (0:Nat) < _; omega), fun h => ?_, fun h => (by cases h), fun h => (by cases h), fun _ => Nat.zero_le _, fun _ => (by show (0:Nat) < _; omega), fun _ => (by show (0:Nat) < _; omega), fun _ => h, fun h => (by cases h), h1, Nat.zero_le _⟩
 simp [nameA, szOf] at h
theorem numA_ok {a f : Int} {n : Nat} (ha0 : 0 < a) (ha1 : a < 114) (hf : f = 15 ∨ f = 13 ∨ f = 11 ∨ f = 12) (hn : n < 18446744073709551616) (h15 : f = 15 → n < 9223372036854775808) (h11 : f = 11 → n < 256) (h12 : f = 12 → n ≤ 1) : OkAtt v w z ⟨a, f, false, n, noS, []⟩ := by
 have hc : (clsOf v a f).1 = 3 ∨ ((clsOf v a f).1 = 5 ∧ f = 12) := by rcases hf with rfl | rfl | rfl | rfl <;> simp [clsOf]
 have hfit : 0 < szOf v w z f → szOf v w z f < 8 → n < 256 ^ szOf v w z f := fun h0 h8 => by
  rcases hf with rfl | rfl | rfl | rfl
  ·simp [szOf] at h0
  ·simp [szOf] at h0
  ·have := h11 rfl; simp [szOf]; omega
  ·have := h12 rfl; simp [szOf]; omega
 have hF : FormA f := by simp only [FormA]; omega
 have c5 : (clsOf v a f).1 = 5 → n ≤ 1 := fun h => by
  rcases hc with hc | ⟨-, hc⟩
  ·omega
  ·exact h12 hc
 have c12 : (clsOf v a f).1 = 12 → NoZero noS := fun h => by omega
 have c10 : (clsOf v a f).1 = 10 → n < 2147483648 := fun h => by omega
 have c6 : (clsOf v a f).1 = 6 → n < 2147483648 := fun h => by omega
 exact ⟨hF, ha0, ha1, fun h => by (cases h), hn, hfit, fun h => by (simp only at h; omega), fun h => by (simp only at h; omega), c5, c10, c6, c12, h15, Nat.zero_le _, Nat.zero_le _⟩
theorem plainA_ok {a n : Int} (ha0 : 0 < a) (ha1 : a < 114) (h0 : 0 ≤ n) (h1 : n ≤ 1048576) : OkAtt v w z (plainA a n) := by
 have e : u64n n < 9223372036854775808 := by rw [u64n_nat h0 (by omega)]; omega
 exact numA_ok ha0 ha1 (.inl rfl) (by omega) (fun _ => e) (fun h => by cases h) (fun h => by cases h)
theorem refA_ok {f : Int} {n : Nat} (hz : z = 4 ∨ z = 8) (hf : f = 16 ∨ f = 19) (hn : n < 2147483648) : OkAtt v w z ⟨73, f, false, n, noS, []⟩ := by
 have e : (256 : Nat) ^ 4 = 4294967296 := by decide
 have hc : (clsOf v 73 f).1 = 10 := by rcases hf with rfl | rfl <;> simp [clsOf]
 have hfit : 0 < szOf v w z f → szOf v w z f < 8 → n < 256 ^ szOf v w z f := fun h0 h8 => by
  have : szOf v w z f = 4 ∨ szOf v w z f = 8 := by
   have h1 : z.toNat = 4 ∨ z.toNat = 8 := by omega
   rcases hf with rfl | rfl
   ·simp only [szOf]
    by_cases hv : v = 2
    ·simpa [hv] using h1
    ·cases w <;> simp [offSz, hv]
   ·exact .inl (by simp [szOf])
  rw [show szOf v w z f = 4 by omega, e]; omega
 have hF : FormA f := by simp only [FormA]; omega
 exact ⟨hF, (by decide : (0 : Int) < 73), (by decide : (73 : Int) < 114), fun h => by (cases h), (by show n < _; omega), hfit, fun h => by (simp only at h; omega), fun h => by (simp only at h; omega), fun h => by (simp only at h; omega), fun _ => hn, fun h => by (simp only at h; omega), fun h => by (simp only at h; omega), fun h => by (simp only at h; omega), Nat.zero_le _, Nat.zero_le _⟩
end
def SmP (pl : List Int) : Prop := ∀ p ∈ pl, 0 ≤ p ∧ p < 2147483648
theorem ofT_ok {l : Lay} {pl : List Int} {n : Int} (hl : OkLay l) (hp : SmP pl) (hn : n < pl.length) : ∀ a ∈ ofT l pl n, OkAtt l.vers l.wide l.size a := by
 intro a ha
 unfold ofT at ha
 split at ha
 ·simp at ha
 next h0 =>
  rw [List.mem_singleton] at ha; subst ha
  have hlt : n.toNat < pl.length := by omega
  have he : pl.getD n.toNat 0 = pl[n.toNat] := by rw [List.getD_eq_getElem?_getD, List.getElem?_eq_getElem hlt]; rfl
  have hb := hp pl[n.toNat] (List.getElem_mem hlt)
  rw [he]
  refine refA_ok hl.sz ?_ ?_
  ·split <;> simp
  ·rw [u64n_nat hb.1 (by omega)]; omega
theorem atts_ok {l : Lay} {pl : List Int} {d : Df} {i : Nat} (hl : OkLay l) (hp : SmP pl) (hd : OkDf pl.length i d) : ∀ a ∈ defA l pl d, OkAtt l.vers l.wide l.size a := by
 have hnm : OkAtt l.vers l.wide l.size (nameA d.name) := nameA_ok hd.d0.txt hd.d0.n1
 have hsz : OkAtt l.vers l.wide l.size (plainA 11 d.size) := plainA_ok (by decide) (by decide) hd.d0.s0 hd.d0.s1
 have hof := ofT_ok hl hp hd.d0.of1
 have hinc : OkAtt l.vers l.wide l.size incA := numA_ok (by decide) (by decide) (.inr (.inr (.inr rfl))) (by decide) (fun h => by cases h) (fun h => by cases h) (fun _ => Nat.le_refl _)
 have hk := hd.k16
 have hk1 := hd.k1
 have hkA : OkAtt l.vers l.wide l.size ⟨62, 11, false, u64n d.kind, noS, []⟩ := numA_ok (by decide) (by decide) (.inr (.inr (.inl rfl))) (u64n_lt _) (fun h => by cases h) (fun _ => by rw [u64n_nat (by omega) (by omega)]; omega) (fun h => by cases h)
 intro a ha
 unfold defA at ha
 repeat' split at ha
 all_goals first
  | exact hof a ha
  | (simp only [List.mem_cons, List.not_mem_nil, or_false] at ha; rcases ha with rfl | rfl | rfl <;> assumption)
  | (simp only [List.mem_cons, List.not_mem_nil, or_false] at ha; rcases ha with rfl | rfl <;> assumption)
  | (simp only [List.mem_cons, List.not_mem_nil, or_false] at ha; rcases ha with rfl <;> assumption)
  | (rcases List.mem_cons.1 ha with rfl | ha; exact hnm; exact hof a ha)
theorem kids_ok {l : Lay} {pl : List Int} {d : Df} {i : Nat} (hl : OkLay l) (hp : SmP pl) (hd : OkDf pl.length i d) : ∀ x ∈ defK l pl d, (0 < x.tag ∧ x.tag ≤ 65535 ∧ x.sib = false ∧ x.ch = false ∧ x.atts.length ≤ 3) ∧ ∀ a ∈ x.atts, OkAtt l.vers l.wide l.size a := by
 intro x hx
 unfold defK at hx
 split at hx
 ·obtain ⟨m, hm, rfl⟩ := List.mem_map.1 hx
  obtain ⟨k, hk⟩ := List.getElem?_of_mem hm
  have hmk := hd.mem k m hk
  refine ⟨⟨(by decide : (0 : Int) < 13), (by decide : (13 : Int) ≤ 65535), rfl, rfl, ?_⟩, fun a ha => ?_⟩
  ·have := ofT_len (l := l) (pl := pl) (n := m.of); simp [memN]; omega
  ·rcases List.mem_append.1 ha with ha | ha
   ·rcases List.mem_cons.1 ha with rfl | ha
    ·exact nameA_ok hmk.txt hmk.n1
    ·exact ofT_ok hl hp hmk.of1 a ha
   ·rw [List.mem_singleton.1 ha]; exact plainA_ok (by decide) (by decide) hmk.o0 hmk.o1
 ·split at hx
  ·obtain ⟨z, hz, rfl⟩ := List.mem_map.1 hx
   obtain ⟨k, hk⟩ := List.getElem?_of_mem hz
   have hmk := hd.cnt k z hk
   have h0 := hmk.c0
   have h1 := hmk.c1
   refine ⟨⟨(by decide : (0 : Int) < 33), (by decide : (33 : Int) ≤ 65535), rfl, rfl, ?_⟩, fun a ha => ?_⟩
   ·simp only [cntN, cntA]; repeat' split
    all_goals simp
   ·simp only [cntN, cntA] at ha
    split at ha
    ·simp at ha
    ·split at ha
     ·next hu =>
      have : z ≠ 0 := fun e => by have := hmk.up e; rw [this] at hu; cases hu
      rw [List.mem_singleton.1 ha]; exact plainA_ok (by decide) (by decide) (by omega) (by omega)
     ·rw [List.mem_singleton.1 ha]; exact plainA_ok (by decide) (by decide) (by omega) (by omega)
  ·split at hx
   ·obtain ⟨c, hc, rfl⟩ := List.mem_map.1 hx
    have hmk := hd.con c hc
    refine ⟨⟨(by decide : (0 : Int) < 40), (by decide : (40 : Int) ≤ 65535), rfl, rfl, by simp [conN]⟩, fun a ha => ?_⟩
    simp only [conN, List.mem_cons, List.not_mem_nil, or_false] at ha
    rcases ha with rfl | rfl
    ·exact nameA_ok hmk.txt hmk.n1
    ·exact numA_ok (by decide) (by decide) (.inr (.inl rfl)) (u64n_lt _) (fun h => by cases h) (fun h => by cases h) (fun h => by cases h)
   ·split at hx
    ·obtain ⟨p, hq, rfl⟩ := List.mem_map.1 hx
     have hmk := hd.par p hq
     unfold parN
     split
     ·exact ⟨⟨(by decide : (0 : Int) < 24), (by decide : (24 : Int) ≤ 65535), rfl, rfl, by simp⟩, fun a ha => by simp at ha⟩
     ·exact ⟨⟨(by decide : (0 : Int) < 5), (by decide : (5 : Int) ≤ 65535), rfl, rfl, by have := ofT_len (l := l) (pl := pl) (n := p); simp only []; omega⟩, fun a ha => ofT_ok hl hp (by omega) a ha⟩
    ·simp at hx
theorem defTag_pos (d : Df) : 0 < defTag d ∧ defTag d ≤ 65535 := by
 unfold defTag tagQ tagSt
 repeat' split
 all_goals decide
theorem defA_len {l : Lay} {pl : List Int} {d : Df} : (defA l pl d).length ≤ 3 := by
 have := ofT_len (l := l) (pl := pl) (n := d.of)
 unfold defA
 repeat' split
 all_goals first | (simp; done) | (simp only [List.length_cons]; omega) | omega
theorem defN_ok {l : Lay} {pl : List Int} {d : Df} {i : Nat} (hl : OkLay l) (hp : SmP pl) (hd : OkDf pl.length i d) : ∀ x ∈ defN l pl d, NodT x ∧ ∀ a ∈ x.atts, OkAtt l.vers l.wide l.size a := by
 intro x hx
 rcases List.mem_cons.1 hx with rfl | hx
 ·have h1 := defTag_pos d
  have h2 := defA_len (l := l) (pl := pl) (d := d)
  have h3 := atts_ok hl hp hd
  exact ⟨⟨by simp only []; omega, by simp only []; omega, by simp only []; omega, fun h => by simp only [] at h; omega, fun a ha => attT_of (h3 a ha)⟩, h3⟩
 ·split at hx
  ·simp at hx
  ·rcases List.mem_append.1 hx with hx | hx
   ·obtain ⟨⟨h1, h2, -, -, h3⟩, h4⟩ := kids_ok hl hp hd x hx
    exact ⟨⟨by omega, h2, by omega, fun h => by omega, fun a ha => attT_of (h4 a ha)⟩, h4⟩
   ·rw [List.mem_singleton.1 hx]
    exact ⟨⟨by decide, by decide, by decide, fun _ => rfl, fun a ha => by simp [nulN] at ha⟩, fun a ha => by simp [nulN] at ha⟩
def uniT (l : Lay) (ds : List Df) (pl : List Int) : Uni := ⟨l.vers, l.wide, l.size, typeN l pl ds⟩
theorem typeN_ok {l : Lay} {pl : List Int} {ds : List Df} (hok : OkDs l ds) (hpl : pl.length = ds.length) (hp : SmP pl) : ∀ x ∈ typeN l pl ds, NodT x ∧ ∀ a ∈ x.atts, OkAtt l.vers l.wide l.size a := by
 intro x hx
 rcases List.mem_cons.1 hx with rfl | hx
 ·exact ⟨⟨by decide, by decide, by decide, fun h => (by cases h), fun a ha => by simp [topN] at ha⟩, fun a ha => by simp [topN] at ha⟩
 ·rcases List.mem_append.1 hx with hx | hx
  ·obtain ⟨d, hd, hx⟩ := List.mem_flatMap.1 hx
   obtain ⟨j, hj⟩ := List.getElem?_of_mem hd
   have := hok.each j d hj
   rw [← hpl] at this
   exact defN_ok hok.lay hp this x hx
  ·rw [List.mem_singleton.1 hx]
   exact ⟨⟨by decide, by decide, by decide, fun _ => rfl, fun a ha => by simp [nulN] at ha⟩, fun a ha => by simp [nulN] at ha⟩
theorem typeN_length {l : Lay} {pl : List Int} {ds : List Df} : (typeN l pl ds).length = sumBy nlen ds + 2 := by
 unfold typeN; rw [List.length_cons, List.length_append, bodN_length]; simp
theorem sumN_le {l : Lay} {ds : List Df} (hok : OkDs l ds) : sumBy nlen ds ≤ 10400 := by
 have := sumBy_nlen_le (n := ds.length) (ds := ds) fun d hd => by
  obtain ⟨j, hj⟩ := List.getElem?_of_mem hd
  exact ⟨j, hok.each j d hj⟩
 have := hok.n1
 omega
theorem uniT_K {l : Lay} {pl : List Int} {ds : List Df} (hok : OkDs l ds) (hpl : pl.length = ds.length) (hp : SmP pl) : UniK (uniT l ds pl) := by
 have h := typeN_ok hok hpl hp
 have h1 := sumN_le hok
 exact { v2 := hok.lay.v2, v5 := hok.lay.v5, sz := hok.lay.sz, n1 := by show (typeN l pl ds).length ≤ _; rw [typeN_length]; omega, nod := fun x hx => (h x hx).1, att := fun x hx => (h x hx).2 }
set_option maxHeartbeats 40000000
def SamA (v : Int) (w : Bool) (z : Int) (a b : Att) : Prop := a = b ∨ (a.form = b.form ∧ a.ind = b.ind ∧ 0 < szOf v w z a.form ∧ attS a = [] ∧ attS b = [] ∧ attL a = [] ∧ attL b = [])
inductive Two {α : Type} (R : α → α → Prop) : List α → List α → Prop where
 | nil : Two R [] []
 | cons {x y xs ys} : R x y → Two R xs ys → Two R (x :: xs) (y :: ys)
theorem Two.append {α : Type} {R : α → α → Prop} : ∀ {a b c d : List α}, Two R a b → Two R c d → Two R (a ++ c) (b ++ d)
 | [], [], _, _, .nil, k => k
 | _ :: _, _ :: _, _, _, .cons h t, k => .cons h (t.append k)
theorem Two.refl {α : Type} {R : α → α → Prop} (hr : ∀ x, R x x) : ∀ l : List α, Two R l l
 | [] => .nil
 | x :: l => .cons (hr x) (Two.refl hr l)
theorem Two.map {α β : Type} {R : β → β → Prop} {f g : α → β} (h : ∀ x, R (f x) (g x)) : ∀ l : List α, Two R (l.map f) (l.map g)
 | [] => .nil
 | x :: l => .cons (h x) (Two.map h l)
theorem Two.flatMap {α β : Type} {R : β → β → Prop} {f g : α → List β} (h : ∀ x, Two R (f x) (g x)) : ∀ l : List α, Two R (l.flatMap f) (l.flatMap g)
 | [] => .nil
 | x :: l => by rw [List.flatMap_cons, List.flatMap_cons]; exact (h x).append (Two.flatMap h l)
def SamN (v : Int) (w : Bool) (z : Int) (x y : Nod) : Prop := x.tag = y.tag ∧ x.sib = y.sib ∧ x.ch = y.ch ∧ Two (SamA v w z) x.atts y.atts
section
variable {v : Int} {w : Bool} {z : Int} {big : Bool}
theorem SamA.refl (a : Att) : SamA v w z a a := .inl rfl
theorem SamN.refl (x : Nod) : SamN v w z x x := ⟨rfl, rfl, rfl, Two.refl SamA.refl _⟩
theorem SamA.len {a b : Att} (h : SamA v w z a b) {so lo : Nat} : (attP v w z big so lo a).length = (attP v w z big so lo b).length ∧ (attS a).length = (attS b).length ∧ (attL a).length = (attL b).length := by
 rcases h with rfl | ⟨h1, h2, h3, h4, h5, h6, h7⟩
 ·exact ⟨rfl, rfl, rfl⟩
 ·rw [h4, h5, h6, h7]
  refine ⟨?_, rfl, rfl⟩
  have h3' := h3
  rw [h1] at h3'
  unfold attP attE
  rw [if_pos h3, if_pos h3', h1, h2, List.length_append, List.length_append, fix_length, fix_length]
theorem attsP_two {xs ys : List Att} (h : Two (SamA v w z) xs ys) : ∀ {so lo : Nat}, (attsP v w z big so lo xs).length = (attsP v w z big so lo ys).length ∧ (attsS xs).length = (attsS ys).length ∧ (attsL xs).length = (attsL ys).length := by
 induction h with
 | nil => intro so lo; exact ⟨rfl, rfl, rfl⟩
 | @cons x y xs ys hx _ ih =>
  intro so lo
  obtain ⟨h1, h2, h3⟩ := hx.len (big := big) (so := so) (lo := lo)
  obtain ⟨g1, g2, g3⟩ := ih (so := so + (attS x).length) (lo := lo + (attL x).length)
  refine ⟨?_, ?_, ?_⟩
  ·simp only [attsP, List.length_append]; rw [h1, g1, h2, h3]
  ·simp only [attsS, List.flatMap_cons, List.length_append] at g2 ⊢; rw [h2, g2]
  ·simp only [attsL, List.flatMap_cons, List.length_append] at g3 ⊢; rw [h3, g3]
theorem nodE_two {x y : Nod} (h : SamN v w z x y) {so lo i : Nat} {sb : List UInt8} : (nodE v w z big so lo i x sb).length = (nodE v w z big so lo i y sb).length ∧ (attsS x.atts).length = (attsS y.atts).length ∧ (attsL x.atts).length = (attsL y.atts).length := by
 obtain ⟨h1, h2, -, h3⟩ := h
 obtain ⟨g1, g2, g3⟩ := attsP_two (big := big) h3 (so := so) (lo := lo)
 refine ⟨?_, g2, g3⟩
 unfold nodE
 rw [h1, h2]
 split
 ·rfl
 ·simp only [List.length_append, g1]
theorem nodL_two {xs ys : List Nod} (h : Two (SamN v w z) xs ys) : ∀ {so lo i : Nat}, (nodL v w z big so lo i xs).map List.length = (nodL v w z big so lo i ys).map List.length := by
 induction h with
 | nil => intro so lo i; rfl
 | @cons x y xs ys hx _ ih =>
  intro so lo i
  obtain ⟨h1, h2, h3⟩ := nodE_two (big := big) hx (so := so) (lo := lo) (i := i) (sb := [0, 0, 0, 0])
  simp only [nodL, List.map_cons, h1]
  rw [ih, h2, h3]
theorem plN_lens : ∀ {aa bs : List (List UInt8)} {a : Nat}, aa.map List.length = bs.map List.length → plN a aa = plN a bs
 | [], [], _, _ => rfl
 | [], _ :: _, _, h => by simp at h
 | _ :: _, [], _, h => by simp at h
 | x :: aa, y :: bs, a, h => by
  simp only [List.map_cons, List.cons.injEq] at h
  rw [plN, plN, h.1, plN_lens h.2]
end
theorem szOf_ref {v : Int} {w : Bool} {z f : Int} (hz : z = 4 ∨ z = 8) (hf : f = 16 ∨ f = 19) : 0 < szOf v w z f := by
 rcases hf with rfl | rfl
 ·simp only [szOf]
  by_cases hv : v = 2
  ·simp [hv]; omega
  ·cases w <;> simp [offSz, hv]
 ·simp [szOf]
section
variable {l : Lay} (hz : l.size = 4 ∨ l.size = 8) {pl pl' : List Int}
include hz
theorem ofT_two (n : Int) : Two (SamA l.vers l.wide l.size) (ofT l pl n) (ofT l pl' n) := by
 unfold ofT
 split
 ·exact .nil
 ·refine .cons (.inr ⟨rfl, rfl, szOf_ref hz (by simp only []; split <;> simp), ?_, ?_, ?_, ?_⟩) .nil
  all_goals (simp only [attS, attL]; split <;> rfl)
theorem defA_two (d : Df) : Two (SamA l.vers l.wide l.size) (defA l pl d) (defA l pl' d) := by
 have h := ofT_two hz (pl := pl) (pl' := pl') d.of
 unfold defA
 repeat' split
 all_goals first | exact h | exact .cons (SamA.refl _) h | exact Two.refl SamA.refl _
theorem defK_two (d : Df) : Two (SamN l.vers l.wide l.size) (defK l pl d) (defK l pl' d) := by
 unfold defK
 split
 ·exact Two.map (fun m => ⟨rfl, rfl, rfl, (Two.cons (SamA.refl _) (ofT_two hz m.of)).append (Two.refl SamA.refl _)⟩) _
 ·split
  ·exact Two.refl SamN.refl _
  ·split
   ·exact Two.refl SamN.refl _
   ·split
    ·refine Two.map (fun p => ?_) _
     unfold parN
     split
     ·exact SamN.refl _
     ·exact ⟨rfl, rfl, rfl, ofT_two hz p⟩
    ·exact .nil
theorem defN_two (d : Df) : Two (SamN l.vers l.wide l.size) (defN l pl d) (defN l pl' d) := by
 have h := defK_two hz (pl := pl) (pl' := pl') d
 have hl : (defK l pl d).isEmpty = (defK l pl' d).isEmpty := by
  generalize defK l pl d = a at h
  generalize defK l pl' d = b at h
  cases h <;> rfl
 unfold defN
 rw [hl]
 refine .cons ⟨rfl, rfl, rfl, defA_two hz d⟩ ?_
 split
 ·exact .nil
 ·exact h.append (Two.refl SamN.refl _)
theorem typeN_two (ds : List Df) : Two (SamN l.vers l.wide l.size) (typeN l pl ds) (typeN l pl' ds) :=
 .cons (SamN.refl _) ((Two.flatMap (fun d => defN_two hz d) ds).append (Two.refl SamN.refl _))
theorem plU_same (ds : List Df) {big : Bool} {base so lo : Nat} : plU (uniT l ds pl) big base so lo = plU (uniT l ds pl') big base so lo := by
 unfold plU
 exact plN_lens (nodL_two (typeN_two hz ds))
end
def PL (l : Lay) (ds : List Df) : List Nat := (rootsL 1 ds).map fun r => (plU (uniT l ds (List.replicate ds.length 0)) l.big 0 0 0).getD r 0
def PLI (l : Lay) (ds : List Df) : List Int := (PL l ds).map fun (n : Nat) => (n : Int)
def TU (l : Lay) (ds : List Df) : Uni := uniT l ds (PLI l ds)
theorem PL_length {l : Lay} {ds : List Df} : (PL l ds).length = ds.length := by unfold PL; rw [List.length_map, rootsL_length]
theorem PLI_length {l : Lay} {ds : List Df} : (PLI l ds).length = ds.length := by unfold PLI; rw [List.length_map, PL_length]
theorem PL_eq {l : Lay} {ds : List Df} (hz : l.size = 4 ∨ l.size = 8) : (rootsL 1 ds).map (fun r => (plU (TU l ds) l.big 0 0 0).getD r 0) = PL l ds := by
 unfold PL TU
 rw [plU_same hz ds]
theorem kids_few {l : Lay} {pl : List Int} {d : Df} {i : Nat} (hl : OkLay l) (hp : SmP pl) (hd : OkDf pl.length i d) : ∀ x ∈ defN l pl d, x.atts.length ≤ 3 := by
 intro x hx
 rcases List.mem_cons.1 hx with rfl | hx
 ·exact defA_len
 ·split at hx
  ·simp at hx
  ·rcases List.mem_append.1 hx with hx | hx
   ·exact (kids_ok hl hp hd x hx).1.2.2.2.2
   ·rw [List.mem_singleton.1 hx]; simp [nulN]
theorem typeN_few {l : Lay} {pl : List Int} {ds : List Df} (hok : OkDs l ds) (hpl : pl.length = ds.length) (hp : SmP pl) : ∀ x ∈ typeN l pl ds, x.atts.length ≤ 3 := by
 intro x hx
 rcases List.mem_cons.1 hx with rfl | hx
 ·simp [topN]
 ·rcases List.mem_append.1 hx with hx | hx
  ·obtain ⟨d, hd, hx⟩ := List.mem_flatMap.1 hx
   obtain ⟨j, hj⟩ := List.getElem?_of_mem hd
   have := hok.each j d hj
   rw [← hpl] at this
   exact kids_few hok.lay hp this x hx
  ·rw [List.mem_singleton.1 hx]; simp [nulN]
theorem sumBy_bd {α : Type} {f : α → Nat} {m : Nat} : ∀ {l : List α}, (∀ x ∈ l, f x ≤ m) → sumBy f l ≤ m * l.length
 | [], _ => Nat.le_refl _
 | x :: l, h => by
  have h1 := h x (List.mem_cons_self ..)
  have h2 := sumBy_bd (l := l) fun y hy => h y (List.mem_cons_of_mem _ hy)
  simp only [sumBy, List.length_cons, Nat.mul_add]; omega
theorem uniT_w {l : Lay} {pl : List Int} {ds : List Df} (hok : OkDs l ds) (hpl : pl.length = ds.length) (hp : SmP pl) : wU (uniT l ds pl) ≤ 300000000 := by
 have h1 := typeN_ok hok hpl hp
 have h2 := typeN_few hok hpl hp
 have h3 := sumN_le hok
 have h4 : ∀ x ∈ typeN l pl ds, wN x ≤ 24672 := fun x hx => by
  have : sumBy wA x.atts ≤ 8224 * x.atts.length := sumBy_bd fun a ha => by
   have := (h1 x hx).2 a ha
   have g1 := this.slen
   have g2 := this.blen
   have e : a.s.data.size = a.s.size := rfl
   unfold wA; omega
  have := h2 x hx
  unfold wN; omega
 have h5 := sumBy_bd h4
 rw [typeN_length] at h5
 show sumBy wN (typeN l pl ds) ≤ _
 omega
theorem uniT_len {l : Lay} {pl : List Int} {ds : List Df} (hok : OkDs l ds) (hpl : pl.length = ds.length) (hp : SmP pl) : (puB l.big (puU (uniT l ds pl) l.big 0 0 0 0)).length ≤ 300250000 := by
 have hK := uniT_K hok hpl hp
 have := unitK_w hK.toUniT hK.num (big := l.big) (abo := 0) (base := 0) (so := 0) (lo := 0)
 have := uniT_w hok hpl hp
 omega
theorem plU_lt {l : Lay} {pl : List Int} {ds : List Df} (hok : OkDs l ds) (hpl : pl.length = ds.length) (hp : SmP pl) (r : Nat) : (plU (uniT l ds pl) l.big 0 0 0).getD r 0 < 2147483648 := by
 have h1 := uniT_len hok hpl hp
 have h2 := unitE_len (u := uniT l ds pl) (big := l.big) (abo := 0) (base := 0) (so := 0) (lo := 0)
 rw [unitE_pu (uniT_K hok hpl hp).toUniT] at h2
 rw [List.getD_eq_getElem?_getD]
 cases e : (plU (uniT l ds pl) l.big 0 0 0)[r]? with
 | none => simp
 | some n =>
  have h3 := plN_get e
  have h4 : sumL ((nodL (uniT l ds pl).vers (uniT l ds pl).wide (uniT l ds pl).size l.big 0 0 0 (uniT l ds pl).nods).take r) ≤ sumL (nodL (uniT l ds pl).vers (uniT l ds pl).wide (uniT l ds pl).size l.big 0 0 0 (uniT l ds pl).nods) := sumBy_take_le _ _ _
  simp only [Option.getD_some]
  omega
theorem rep_sm (n : Nat) : SmP (List.replicate n 0) := fun p hp => by
 rw [List.mem_replicate] at hp; omega
theorem PLI_sm {l : Lay} {ds : List Df} (hok : OkDs l ds) : SmP (PLI l ds) := by
 intro p hp
 obtain ⟨n, hn, rfl⟩ := List.mem_map.1 hp
 obtain ⟨r, -, rfl⟩ := List.mem_map.1 hn
 have := plU_lt hok (pl := List.replicate ds.length 0) (by simp) (rep_sm _) r
 omega
theorem TU_K {l : Lay} {ds : List Df} (hok : OkDs l ds) : UniK (TU l ds) := uniT_K hok PLI_length (PLI_sm hok)
theorem roots_nod {l : Lay} {pl : List Int} : ∀ {ds : List Df} {pre : List Nod}, ∀ r ∈ rootsL pre.length ds, ∃ x, (pre ++ (bodN l pl ds ++ [nulN]))[r]? = some x ∧ x.tag ≠ 0
 | [], _, r, h => by simp [rootsL] at h
 | d :: ds, pre, r, h => by
  have e : pre ++ (bodN l pl (d :: ds) ++ [nulN]) = (pre ++ defN l pl d) ++ (bodN l pl ds ++ [nulN]) := by simp [bodN]
  rcases List.mem_cons.1 h with rfl | h
  ·refine ⟨⟨defTag d, !(defK l pl d).isEmpty, false, defA l pl d⟩, ?_, ?_⟩
   ·rw [List.getElem?_append_right (Nat.le_refl _), Nat.sub_self]
    simp [bodN, defN]
   ·have := defTag_pos d; simp only [ne_eq]; omega
  ·rw [e]
   refine roots_nod (ds := ds) (pre := pre ++ defN l pl d) r ?_
   rw [List.length_append, defN_length]; exact h
theorem reps_zero : ∀ n : Nat, reps n [Value.int .i64 0] = (List.replicate n (0 : Int)).map fun z => Value.int .i64 z
 | 0 => rfl
 | n + 1 => by rw [reps, reps_zero n, List.replicate_succ, List.map_cons]; rfl
theorem numC_lis : ∀ l : List Int, LisC NumC l (l.map fun z => Value.int .i64 z)
 | [] => rfl
 | n :: l => ⟨[_], _, rfl, rfl, numC_lis l⟩
theorem pusB_one {big : Bool} {u : Uni} : pusB big (pusU big 0 0 0 0 [u]) = puB big (puU u big 0 0 0 0) := by simp [pusU, pusB]
theorem SecR.mono' {Γ Γ' : Env} (hle : Γ.le Γ') {v : Value} {ab info ln rg sr lin : List UInt8} {rl : Option (List UInt8)} (h : SecR Γ v ab info ln rg sr lin rl) : SecR Γ' v ab info ln rg sr lin rl := by
 obtain ⟨vA, vI, vL, vR, vS, vD, rfl, h1, h2, h3, h4, h5, h6⟩ := h.ex
 exact ⟨vA, vI, vL, vR, vS, vD, rfl, h1.mono hle, h2.mono hle, h3.mono hle, h4.mono hle, h5.mono hle, h6.mono hle⟩
theorem types_ok {Γ : Env} {H : List Blk} {l : Lay} {ds : List Df} {v : Value} (h : Arr Γ (DfC Γ) v ds) (hok : OkDs l ds) :
  Spc Tryz.prog 9 #[layV l, v] Γ H (fun v Γ' H' => ∃ sc vp, v = .tuple #[sc, vp] ∧ SecR Γ' sc (abT [TU l ds]) (pusB l.big (pusU l.big 0 0 0 0 [TU l ds])) [] [] (strT [TU l ds]) (linT [TU l ds]) none ∧ Arr Γ' NumC vp (PLI l ds) ∧ H' = H) := by
 have hArr := h
 obtain ⟨a0, cap0, cells0, rfl, hcap0, hA0, hL0⟩ := h
 have hn1 := hok.n1
 have hn0 := hok.n0
 refine Spc.body2 Tryz.func9 rfl Tryz.ntmps9 rfl ?_
 refine WC.seq ?_
 refine WC.region ?_
 (refine WL.box rfl spi_ rfl ?_; intro b2)
 (refine WL.alloc tab_ok rfl rfl ?_; intro b4)
 refine gs_ ?_
 refine WE.then_ ?_
 refine WC.seq ?_
 have hPL := PL_length (l := l) (ds := ds)
 have hz0 : (List.replicate ds.length (0 : Int)).length = ds.length := by simp
 refine WC.cutM (fun R' Γ' H' => ∃ vn vr ces Hs Hr, R' = [(1, .slice a0 ds.length cap0), (2, .pointer (some ⟨b2, 0, none⟩)), (4, .pointer (some ⟨b4, 0, none⟩)), (6, vn), (7, vr)] ∧ Γ.le Γ' ∧ H' = Hs ++ (Hr ++ ((b4, cel [nilS, nilS, nilS, nilS, nilS, nilS, nilS] 30) :: (b2, cel [.int .i64 l.vers, .bool l.wide, .int .i64 l.size, .bool l.big, .bool l.far] 23) :: H)) ∧
   Ow 4 vn (typeN l (List.replicate ds.length 0) ds).length ces Hs ∧ LisC (NodC Γ') (typeN l (List.replicate ds.length 0) ds) ces ∧ Ow 1 vr (rootsL 1 ds).length (ints (rootsL 1 ds)) Hr) ?_ ?_
 ·refine WC.draw 11 (.take 0 (.take 1 (.take 2 (.take 3 (.one 4 (.one 5 (.take 6 (.take 7 (.take 8 (.one 9 (.one 10 .done))))))))))) ((b2, _) :: []) mixed xsb_ (by decide +kernel) ?_
  refine dz_ ?_
  refine (show WL _ _ _ _ _ [⟨some 16, .makeSlice 31 (.tmp 15) (.tmp 15), 31, _, _, none⟩] _ _ _ from ?_)
  (refine WL.make tab_ok rfl rfl rfl rfl rfl rfl rfl rfl (by omega) (by omega) (by omega) rfl ?_; intro bm)
  rw [Int.toNat_natCast]
  have howm : Ow 1 (.slice (some ⟨bm, 0, none⟩) ds.length ds.length) ds.length (reps ds.length [Value.int .i64 0]) [(bm, cel (reps ds.length [Value.int .i64 0]) 3)] := Ow.lit (s := 1) (k := ds.length) (by rw [reps_length]; rfl)
  refine WL.keep howm t1_ (fun Γ1 hle1 him => ?_)
  have hA1 : Arr Γ1 NumC (.slice (some ⟨bm, 0, none⟩) ds.length ds.length) (List.replicate ds.length 0) := by
   refine Im.arr ?_ (numC_lis _)
   rw [← reps_zero, hz0]; exact him
  refine dx_ ?_
  refine WL.call rfl Tryz.call19 rfl rfl (by exact (typeNodes_ok (hArr.mono hle1 fun _ _ h => h.mono hle1) hA1 hok hz0)) ?_
  rintro _ Γ2 _ hle2 ⟨vn, vr, Hs, Hr, ces, rfl, hown, hLn, howr, rfl⟩
  have hle12 := hle1.trans hle2
  refine dx_ ?_
  exact WE.mid ⟨vn, vr, ces, Hs, Hr, rfl, hle12, rfl, hown, hLn, howr⟩ sr_ sn_
 rintro _ Γ1 _ ⟨vn, vr, ces, Hs, Hr, rfl, hle1, rfl, hown, hLn, howr⟩
 have hz := hok.lay.sz
 have hw0 := uniT_w hok hz0 (rep_sm _)
 have hK0 := uniT_K hok hz0 (rep_sm _)
 obtain ⟨an, cn, rfl⟩ := Ow.shape hown
 refine WE.keep hown tk_ (fun Γ2 k2 m2 => ?_)
 refine WE.keep howr tk_ (fun Γ3 k3 m3 => ?_)
 have hle3 := hle1.trans (k2.trans k3)
 have hNA : Arr Γ3 (NodC Γ3) (.slice an (typeN l (List.replicate ds.length 0) ds).length cn) (typeN l (List.replicate ds.length 0) ds) := Im.arr (m2.mono k3) (hLn.imp fun _ _ h => h.mono (k2.trans k3))
 have hRA : Arr Γ3 NumC vr ((rootsL 1 ds).map fun (n : Nat) => (n : Int)) := Im.arr (by rw [List.length_map]; exact m3) (nints_lis _)
 refine WE.re (H2 := (b4, cel [nilS, nilS, nilS, nilS, nilS, nilS, nilS] 30) :: (b2, cel [.int .i64 l.vers, .bool l.wide, .int .i64 l.size, .bool l.big, .bool l.far] 23) :: H) sn_ ?_
 refine WE.then_ ?_
 refine WC.seq ?_
 refine WC.cutM (fun R' Γ' H' => ∃ vf, R' = [(1, .slice a0 ds.length cap0), (2, .pointer (some ⟨b2, 0, none⟩)), (4, .pointer (some ⟨b4, 0, none⟩)), (7, vr), (9, vf)] ∧ Γ3.le Γ' ∧ H' = (b4, cel [nilS, nilS, nilS, nilS, nilS, nilS, nilS] 30) :: (b2, cel [.int .i64 l.vers, .bool l.wide, .int .i64 l.size, .bool l.big, .bool l.far] 23) :: H ∧
   Arr Γ' (FndC Γ' l.big [uniT l ds (List.replicate ds.length 0)]) vf [0]) ?_ ?_
 ·refine WC.draw 12 (.take 0 (.take 1 (.take 4 (.take 5 (.two 2 10 (.two 3 10 (.two 6 10 (.take 7 (.take 8 (.take 9 (.one 10 (.one 11 (.one 12 .done)))))) (.one 6 (.take 7 (.take 8 (.take 9 (.one 11 (.one 12 .done))))))) (.one 3 (.one 6 (.take 7 (.take 8 (.take 9 (.one 11 (.one 12 .done)))))))) (.one 2 (.one 3 (.one 6 (.take 7 (.take 8 (.take 9 (.one 11 (.one 12 .done))))))))))))) ((b2, _) :: []) mixed xsb_ (by decide +kernel) ?_
  repeat' (first | (refine WD.g ?_; first | refine WD.one rfl ?_ | refine WD.done ?_ | (refine WD.gTake ?_; first | refine WD.run tab_ok np_ rfl rfl ?_ | (refine WD.at_ rfl ?_; (first | (refine WT.gLoad ?_; first | refine WT.load np_ rfl rfl (by first | exact Ld.own tab_ok rfl rfl pk_ rfl | exact Ld.ownA tab_ok rfl rfl pk_ cut_ | exact Ld.imm tab_ok rfl rfl (by assumption) | exact Ld.rd tab_ok rfl rfl (by (repeat (first | assumption | apply Rd.cons)); (first | done | fail)) | exact Ld.immA tab_ok rfl rfl (by assumption) rfl) ?_ | refine WT.loadG np_ rfl rfl rfl (by first | exact Ld.own tab_ok rfl rfl pk_ rfl | exact Ld.ownA tab_ok rfl rfl pk_ cut_ | exact Ld.imm tab_ok rfl rfl (by assumption) | exact Ld.rd tab_ok rfl rfl (by (repeat (first | assumption | apply Rd.cons)); (first | done | fail)) | exact Ld.immA tab_ok rfl rfl (by assumption) rfl) ?_) | (refine WT.gIdx ?_; first | refine WT.idx tab_ok np_ rfl rfl rfl rfl rfl (by omega) (by omega) ?_ | refine WT.idxG tab_ok np_ rfl rfl rfl rfl rfl rfl (by omega) (by omega) ?_) | (refine WT.gSlice ?_; refine WT.slLo tab_ok np_ rfl rfl rfl rfl rfl (by omega) (by omega) (by omega) ?_) | (refine WT.gBuild ?_; refine WT.build tab_ok np_ rfl rfl spi_ ?_) | refine WT.pure tab_ok np_ rfl rfl ?_ | refine WT.pureG tab_ok np_ rfl rfl rfl ?_ | refine WT.noG np_ rfl rfl rfl ?_)))) | (refine WL.g ?_; first | refine WL.nil ?_ | refine WL.run tab_ok rfl rfl ?_ | (refine WL.gLoad ?_; first | refine WL.ld tab_ok rfl rfl rfl pk_ rfl rfl ?_ | refine WL.ldA tab_ok rfl rfl rfl pk_ cut_ rfl ?_ | refine WL.ldI tab_ok rfl rfl rfl (by assumption) rfl ?_ | refine WL.ldR tab_ok rfl rfl rfl (by (repeat (first | assumption | apply Rd.cons)); (first | done | fail)) rfl ?_ | refine WL.ldAI tab_ok rfl rfl rfl (by assumption) rfl rfl ?_) | (refine WL.gStore ?_; refine WL.st tab_ok rfl rfl rfl pk_ spl_ rfl rfl ?_) | (refine WL.gIdx ?_; refine WL.idx tab_ok rfl rfl rfl rfl (by omega) (by omega) rfl ?_) | (refine WL.gBuild ?_; refine WL.build tab_ok rfl spi_ rfl ?_) | (refine WL.gSlice ?_; first | refine WL.slLo tab_ok rfl rfl rfl rfl (by omega) (by omega) (by omega) rfl ?_ | refine WL.slHi tab_ok rfl rfl rfl rfl (by omega) (by omega) rfl ?_ | refine WL.slLH tab_ok rfl rfl rfl rfl rfl (by omega) (by omega) (by omega) rfl ?_) | (refine WL.gBin ?_; first | refine WL.pure tab_ok (evalP_shl rfl rfl (by omega)) rfl ?_ | refine WL.pure tab_ok (evalP_shr rfl rfl (by omega)) rfl ?_) | refine WL.pure tab_ok rfl rfl ?_ | (refine WL.gGuard ?_; first | refine WL.yes rfl rfl rfl ?_ | refine WL.no rfl rfl rfl rfl rfl ?_ | refine WL.noU rfl rfl rfl rfl ?_)) | (refine WE.g ?_; first | refine WE.then_ ?_ | refine WE.thenX rfl ?_ | refine WE.block_n ?_ | refine WE.block_x ?_ | refine WE.block_y rfl ?_ | refine WE.block_r ?_ | apply WE.drawnL | (apply WE.drawn; exact (by first | exact Env.le.rfl' _ | assumption); exact xsb_)) | refine WD.two rfl rfl ?_ ?_ | (refine WL.alloc tab_ok rfl rfl ?_; intro b8) | (refine WL.call rfl Tryz.call21 rfl rfl (by exact (unitOf_ok (l := l))) ?_; rintro _ _ _ - ⟨rfl, rfl, rfl⟩) | ((refine WL.lit tab_ok rfl rfl rfl rfl rfl rfl rfl spi_ rfl ?_; intro bu); refine WL.keep (Ow.lit (s := 4) (b := bu) (k := 1) (l := [.int .i64 l.vers, .bool l.wide, .int .i64 l.size, .slice an (typeN l (List.replicate ds.length 0) ds).length cn]) (T := 60) rfl) t1_ (fun Γ4 k4 m4 => ?_)) | (refine WL.call rfl Tryz.call20 rfl rfl (by exact (text_ok (big := l.big) (Im.arr (xs := [uniT l ds (List.replicate ds.length 0)]) m4 (LisC.one ⟨_, rfl, hNA.mono k4 fun _ _ h => h.mono k4⟩)) hK0 (by omega))) ?_; rintro _ Γ5 _ k5 ⟨sc, vf, rfl, hSec, hF, rfl⟩; have k45 := k4.trans k5; obtain ⟨vA, vI, vL, vR, vS, vD, rfl, ⟨_, _, rfl, -⟩, ⟨_, _, rfl, -⟩, ⟨_, _, rfl, -⟩, ⟨_, _, rfl, -⟩, ⟨_, _, rfl, -⟩, ⟨_, _, _, -, -, -, rfl, -⟩⟩ := hSec.ex))
  all_goals exact WE.mid ⟨vf, rfl, k45, rfl, hF⟩ sr_ sn_
 rintro _ Γ6 _ ⟨vf, rfl, k6, rfl, hF⟩
 obtain ⟨av, capv, cellv, rfl, hcapv, hAv, hLv⟩ := hF
 obtain ⟨bf, of_, cf, rfl, ⟨uu, ve, huu, rfl, hEN⟩, hcf⟩ := elemA hAv hLv (fun _ _ h => FndC.len h) (w := 2) (by decide) (i := 0) rfl
 injection huu with huu; subst huu
 have hl1 : [0].length = 1 := rfl
 obtain ⟨ave, capve, cellve, rfl, hcapve, hAve, hLve⟩ := hEN
 refine WE.then_ ?_
 refine WC.seq ?_
 refine WC.cutM (fun R' Γ' H' => ∃ vn2 ces2 Hs2, R' = [(1, .slice a0 ds.length cap0), (2, .pointer (some ⟨b2, 0, none⟩)), (4, .pointer (some ⟨b4, 0, none⟩)), (6, vn2), (7, vr)] ∧ Γ6.le Γ' ∧ H' = Hs2 ++ ((b4, cel [nilS, nilS, nilS, nilS, nilS, nilS, nilS] 30) :: (b2, cel [.int .i64 l.vers, .bool l.wide, .int .i64 l.size, .bool l.big, .bool l.far] 23) :: H) ∧ Ow 4 vn2 (typeN l (PLI l ds) ds).length ces2 Hs2 ∧ LisC (NodC Γ') (typeN l (PLI l ds) ds) ces2) ?_ ?_
 ·refine WC.draw 12 (.take 0 (.take 1 (.take 2 (.take 3 (.take 4 (.take 5 (.one 6 (.one 7 (.take 8 (.take 9 (.take 10 (.one 11 .done)))))))))))) ((b2, _) :: []) mixed xsb_ (by decide +kernel) ?_
  refine dz_ ?_
  refine WL.call rfl Tryz.call22 rfl rfl (by exact (placesOf_ok (v := (uniT l ds (List.replicate ds.length 0)).vers) (pls := plU (uniT l ds (List.replicate ds.length 0)) l.big 0 0 0) (nods := (uniT l ds (List.replicate ds.length 0)).nods) ⟨_, _, _, rfl, hcapve, hAve, hLve⟩ (hRA.mono k6 fun _ _ h => h) (fun r hr => roots_nod (pl := List.replicate ds.length 0) (ds := ds) (pre := [topN]) r hr) (by rw [rootsL_length]; omega))) ?_
  rintro vp _ _ - ⟨rfl, Hp, howp, rfl⟩
  refine WL.keep howp tk_ (fun Γ7 k7 m7 => ?_)
  have hPA : Arr Γ7 NumC vp (PLI l ds) := Im.arr (by rw [PLI_length, ← rootsL_length (ds := ds) (s := 1)]; exact m7) (nints_lis (PL l ds))
  refine dz_ ?_
  have hle7 := hle3.trans (k6.trans k7)
  refine WL.call rfl Tryz.call19 rfl rfl (by exact (typeNodes_ok (hArr.mono hle7 fun _ _ h => h.mono hle7) hPA hok PLI_length)) ?_
  rintro _ Γ8 _ k8 ⟨vn2, vr2, Hs2, Hr2, ces2, rfl, hown2, hLn2, howr2, rfl⟩
  have k78 := k7.trans k8
  refine dz_ ?_
  exact WE.mid ⟨vn2, ces2, Hs2, rfl, k78, rfl, hown2, hLn2⟩ sr_ sn_
 rintro _ Γ7 _ ⟨vn2, ces2, Hs2, rfl, k7, rfl, hown2, hLn2⟩
 obtain ⟨an2, cn2, rfl⟩ := Ow.shape hown2
 refine WE.keep hown2 tk_ (fun Γ8 k8 m8 => ?_)
 have hNA2 : Arr Γ8 (NodC Γ8) (.slice an2 (typeN l (PLI l ds) ds).length cn2) (typeN l (PLI l ds) ds) := Im.arr m8 (hLn2.imp fun _ _ h => h.mono k8)
 have hK1 := TU_K hok
 have hw1 := uniT_w hok PLI_length (PLI_sm hok)
 have hle8 := hle3.trans (k6.trans (k7.trans k8))
 refine WE.then_ ?_
 refine WC.seq ?_
 refine WC.cutM (fun R' Γ' H' => ∃ vf aA cA aI cI aL cL aR cR aS cS bD cD b10, R' = [(2, .pointer (some ⟨b2, 0, none⟩)), (4, .pointer (some ⟨b4, 0, none⟩)), (7, vr), (9, vf), (10, .pointer (some ⟨b10, 0, none⟩))] ∧ Γ8.le Γ' ∧ H' = (b10, cel [.slice aA (abT [TU l ds]).length cA, .slice aI (pusB l.big (pusU l.big 0 0 0 0 [TU l ds])).length cI, .slice aL 0 cL, .slice aR 0 cR, .slice aS (strT [TU l ds]).length cS, .slice (some ⟨bD, 0, none⟩) 1 cD, nilS] 30) :: (b4, cel [nilS, nilS, nilS, nilS, nilS, nilS, nilS] 30) :: (b2, cel [.int .i64 l.vers, .bool l.wide, .int .i64 l.size, .bool l.big, .bool l.far] 23) :: H ∧
   Arr Γ' (FndC Γ' l.big [TU l ds]) vf [0] ∧ SecR Γ' (.agg #[.slice aA (abT [TU l ds]).length cA, .slice aI (pusB l.big (pusU l.big 0 0 0 0 [TU l ds])).length cI, .slice aL 0 cL, .slice aR 0 cR, .slice aS (strT [TU l ds]).length cS, .slice (some ⟨bD, 0, none⟩) 1 cD, nilS]) (abT [TU l ds]) (pusB l.big (pusU l.big 0 0 0 0 [TU l ds])) [] [] (strT [TU l ds]) (linT [TU l ds]) none) ?_ ?_
 ·refine WC.draw 12 (.take 0 (.take 1 (.take 4 (.take 5 (.two 2 10 (.two 3 10 (.two 6 10 (.take 7 (.take 8 (.take 9 (.one 10 (.one 11 (.one 12 .done)))))) (.one 6 (.take 7 (.take 8 (.take 9 (.one 11 (.one 12 .done))))))) (.one 3 (.one 6 (.take 7 (.take 8 (.take 9 (.one 11 (.one 12 .done)))))))) (.one 2 (.one 3 (.one 6 (.take 7 (.take 8 (.take 9 (.one 11 (.one 12 .done))))))))))))) ((b2, _) :: []) mixed xsb_ (by decide +kernel) ?_
  repeat' (first | (refine WD.g ?_; first | refine WD.one rfl ?_ | refine WD.done ?_ | (refine WD.gTake ?_; first | refine WD.run tab_ok np_ rfl rfl ?_ | (refine WD.at_ rfl ?_; (first | (refine WT.gLoad ?_; first | refine WT.load np_ rfl rfl (by first | exact Ld.own tab_ok rfl rfl pk_ rfl | exact Ld.ownA tab_ok rfl rfl pk_ cut_ | exact Ld.imm tab_ok rfl rfl (by assumption) | exact Ld.rd tab_ok rfl rfl (by (repeat (first | assumption | apply Rd.cons)); (first | done | fail)) | exact Ld.immA tab_ok rfl rfl (by assumption) rfl) ?_ | refine WT.loadG np_ rfl rfl rfl (by first | exact Ld.own tab_ok rfl rfl pk_ rfl | exact Ld.ownA tab_ok rfl rfl pk_ cut_ | exact Ld.imm tab_ok rfl rfl (by assumption) | exact Ld.rd tab_ok rfl rfl (by (repeat (first | assumption | apply Rd.cons)); (first | done | fail)) | exact Ld.immA tab_ok rfl rfl (by assumption) rfl) ?_) | (refine WT.gIdx ?_; first | refine WT.idx tab_ok np_ rfl rfl rfl rfl rfl (by omega) (by omega) ?_ | refine WT.idxG tab_ok np_ rfl rfl rfl rfl rfl rfl (by omega) (by omega) ?_) | (refine WT.gSlice ?_; refine WT.slLo tab_ok np_ rfl rfl rfl rfl rfl (by omega) (by omega) (by omega) ?_) | (refine WT.gBuild ?_; refine WT.build tab_ok np_ rfl rfl spi_ ?_) | refine WT.pure tab_ok np_ rfl rfl ?_ | refine WT.pureG tab_ok np_ rfl rfl rfl ?_ | refine WT.noG np_ rfl rfl rfl ?_)))) | (refine WL.g ?_; first | refine WL.nil ?_ | refine WL.run tab_ok rfl rfl ?_ | (refine WL.gLoad ?_; first | refine WL.ld tab_ok rfl rfl rfl pk_ rfl rfl ?_ | refine WL.ldA tab_ok rfl rfl rfl pk_ cut_ rfl ?_ | refine WL.ldI tab_ok rfl rfl rfl (by assumption) rfl ?_ | refine WL.ldR tab_ok rfl rfl rfl (by (repeat (first | assumption | apply Rd.cons)); (first | done | fail)) rfl ?_ | refine WL.ldAI tab_ok rfl rfl rfl (by assumption) rfl rfl ?_) | (refine WL.gStore ?_; refine WL.st tab_ok rfl rfl rfl pk_ spl_ rfl rfl ?_) | (refine WL.gIdx ?_; refine WL.idx tab_ok rfl rfl rfl rfl (by omega) (by omega) rfl ?_) | (refine WL.gBuild ?_; refine WL.build tab_ok rfl spi_ rfl ?_) | (refine WL.gSlice ?_; first | refine WL.slLo tab_ok rfl rfl rfl rfl (by omega) (by omega) (by omega) rfl ?_ | refine WL.slHi tab_ok rfl rfl rfl rfl (by omega) (by omega) rfl ?_ | refine WL.slLH tab_ok rfl rfl rfl rfl rfl (by omega) (by omega) (by omega) rfl ?_) | (refine WL.gBin ?_; first | refine WL.pure tab_ok (evalP_shl rfl rfl (by omega)) rfl ?_ | refine WL.pure tab_ok (evalP_shr rfl rfl (by omega)) rfl ?_) | refine WL.pure tab_ok rfl rfl ?_ | (refine WL.gGuard ?_; first | refine WL.yes rfl rfl rfl ?_ | refine WL.no rfl rfl rfl rfl rfl ?_ | refine WL.noU rfl rfl rfl rfl ?_)) | (refine WE.g ?_; first | refine WE.then_ ?_ | refine WE.thenX rfl ?_ | refine WE.block_n ?_ | refine WE.block_x ?_ | refine WE.block_y rfl ?_ | refine WE.block_r ?_ | apply WE.drawnL | (apply WE.drawn; exact (by first | exact Env.le.rfl' _ | assumption); exact xsb_)) | refine WD.two rfl rfl ?_ ?_ | (refine WL.alloc tab_ok rfl rfl ?_; intro b10) | (refine WL.call rfl Tryz.call21 rfl rfl (by exact (unitOf_ok (l := l))) ?_; rintro _ _ _ - ⟨rfl, rfl, rfl⟩) | ((refine WL.lit tab_ok rfl rfl rfl rfl rfl rfl rfl spi_ rfl ?_; intro bu); refine WL.keep (Ow.lit (s := 4) (b := bu) (k := 1) (l := [.int .i64 l.vers, .bool l.wide, .int .i64 l.size, .slice an2 (typeN l (PLI l ds) ds).length cn2]) (T := 60) rfl) t1_ (fun Γ9 k9 m9 => ?_)) | (refine WL.call rfl Tryz.call20 rfl rfl (by exact (text_ok (big := l.big) (Im.arr (xs := [TU l ds]) m9 (LisC.one ⟨_, rfl, hNA2.mono k9 fun _ _ h => h.mono k9⟩)) hK1 (by show wU (uniT l ds (PLI l ds)) ≤ _; omega))) ?_; rintro _ Γ10 _ k10 ⟨sc, vf, rfl, hSec, hF2, rfl⟩; have k910 := k9.trans k10; have hSec2 := hSec; obtain ⟨vA, vI, vL, vR, vS, vD, rfl, ⟨aA, cA, rfl, -⟩, ⟨aI, cI, rfl, -⟩, ⟨aL, cL, rfl, -⟩, ⟨aR, cR, rfl, -⟩, ⟨aS, cS, rfl, -⟩, ⟨bD, cD, _, -, -, -, rfl, -⟩⟩ := hSec.ex))
  all_goals exact WE.mid ⟨vf, aA, cA, aI, cI, aL, cL, aR, cR, aS, cS, bD, cD, b10, rfl, k910, rfl, hF2, hSec2⟩ sr_ sn_
 rintro _ Γ9 _ ⟨vf, aA, cA, aI, cI, aL, cL, aR, cR, aS, cS, bD, cD, b10, rfl, k9, rfl, hF2, hSec2⟩
 obtain ⟨av, capv, cellv, rfl, hcapv, hAv, hLv⟩ := hF2
 obtain ⟨bf, of_, cf, rfl, ⟨uu, ve, huu, rfl, hEN⟩, hcf⟩ := elemA hAv hLv (fun _ _ h => FndC.len h) (w := 2) (by decide) (i := 0) rfl
 injection huu with huu; subst huu
 obtain ⟨ave, capve, cellve, rfl, hcapve, hAve, hLve⟩ := hEN
 have hRA9 := hRA.mono (k6.trans (k7.trans (k8.trans k9))) fun _ _ h => h
 have hle9 := hle8.trans k9
 refine WE.then_ ?_
 refine WC.seq ?_
 refine WC.draw 7 (.take 0 (.take 1 (.take 2 (.take 3 (.take 4 (.one 5 (.one 6 (.one 7 .done)))))))) ((b10, _) :: (b2, _) :: []) mixed xsb_ (by decide +kernel) ?_
 refine dz_ ?_
 refine WL.call rfl Tryz.call22 rfl rfl (by exact (placesOf_ok (v := (TU l ds).vers) (pls := plU (TU l ds) l.big 0 0 0) (nods := (TU l ds).nods) ⟨_, _, _, rfl, hcapve, hAve, hLve⟩ hRA9 (fun r hr => roots_nod (pl := PLI l ds) (ds := ds) (pre := [topN]) r hr) (by rw [rootsL_length]; omega))) ?_
 rintro vp _ _ - ⟨rfl, Hp, howp, rfl⟩
 refine dz_ ?_
 refine gz_ ?_
 rw [PL_eq hz] at howp
 refine WE.keep howp tk_ (fun Γ10 k10 m10 => ?_)
 refine WE.re (H2 := (b4, cel [.slice aA (abT [TU l ds]).length cA, .slice aI (pusB l.big (pusU l.big 0 0 0 0 [TU l ds])).length cI, .slice aL 0 cL, .slice aR 0 cR, .slice aS (strT [TU l ds]).length cS, .slice (some ⟨bD, 0, none⟩) 1 cD, nilS] 30) :: H) sn_ ?_
 refine end_ct tab_ok rfl rfl rfl rfl rfl Pick.here rfl (hle9.trans k10) ⟨_, _, rfl, ?_, Im.arr (by rw [PLI_length, ← rootsL_length (ds := ds) (s := 1)]; exact m10) (nints_lis (PL l ds)), rfl⟩
 exact SecR.mono' k10 hSec2
end Go.Proofs.YtbgkbgoonjkghaaGreatDoor
