/- Parts of the proof: Lc Ld Le Lf. -/
import Derived.Test.YtbgkbgoonjkghaaGreatDoorA3
import Derived.Test.YtbgkbgoonjkghaaGreatDoorA6
import Derived.Test.YtbgkbgoonjkghaaGreatDoorA14
import Derived.Test.YtbgkbgoonjkghaaGreatDoorA13
namespace Go.Proofs.YtbgkbgoonjkghaaGreatDoor
open Go Go.Sl
set_option maxRecDepth 10000
set_option maxHeartbeats 40000000
def TlC (Γ0 : Env) (l : Lay) (ds : List Df) (vd : Value) (pt pq : Nat) (f : Nat) : Prop :=
 ∀ {Γ : Env} {F : List Blk} {S : TSt} {T : TT} {tv kv : Value} {Ht Hk : List Blk} {ge : List MapEntry} {gc : Nat} {n : Int}, Γ0.le Γ → TlR Γ ds S T tv kv Ht Hk ge → n < ds.length → missN ds S.seen ≤ f →
  Spc Tryz.prog 11 #[.pointer (some ⟨pt, 0, none⟩), .int .i64 n] Γ (TlH l vd pt pq tv kv ge gc Ht Hk F) (TlP l vd pt pq ds F (numOf (numNd l ds f) S n))
def arrT (l : Lay) (ds : List Df) (f : Nat) (S : TSt) (j : Nat) (d : Df) (q : Nat) : TSt × Int := if q < d.cnts.length then numNd l ds f S (j, q) else numOf (numNd l ds f) S d.of
def TlA (Γ0 : Env) (l : Lay) (ds : List Df) (vd : Value) (pt pq : Nat) (f : Nat) : Prop :=
 ∀ {Γ : Env} {F : List Blk} {S : TSt} {T : TT} {tv kv : Value} {Ht Hk : List Blk} {ge : List MapEntry} {gc j q : Nat} {d : Df} {c : List Value}, Γ0.le Γ → TlR Γ ds S T tv kv Ht Hk ge → ds[j]? = some d → d.kind = 11 → q + 1 ≤ d.cnts.length → (j, q) ∈ S.seen → (j, q + 1) ∉ S.seen → DfC Γ d c → missN ds S.seen ≤ f →
  Spc Tryz.prog 36 #[.pointer (some ⟨pt, 0, none⟩), .agg c.toArray, .int .i64 ((q + 1 : Nat) : Int)] Γ (TlH l vd pt pq tv kv ge gc Ht Hk F) (TlP l vd pt pq ds F (arrT l ds f S j d (q + 1)))
def TyQ (l : Lay) (vd : Value) (pt pq : Nat) (ds : List Df) (F : List Blk) (R : TSt × Ty) (r : Value) (Γ' : Env) (H' : List Blk) : Prop :=
 ∃ c T tv kv Ht Hk ge gc, r = .agg c.toArray ∧ TyC Γ' { R.2 with size := 0 } c ∧ TlR Γ' ds R.1 T tv kv Ht Hk ge ∧ H' = TlH l vd pt pq tv kv ge gc Ht Hk F
section
variable {Γ Γ0 : Env} {l : Lay} {ds : List Df} {vd tv kv : Value} {pt pq f gc j : Nat} {F Ht Hk : List Blk} {S : TSt} {T : TT} {ge : List MapEntry} {d : Df}
theorem tq9 (ih : TlC Γ0 l ds vd pt pq f) (hok : OkDs l ds) (hX : Arr Γ0 (DfC Γ0) vd ds) (hle : Γ0.le Γ) (hT : TlR Γ ds S T tv kv Ht Hk ge) (hd : ds[j]? = some d) (hm : missN ds S.seen ≤ f) (hk : d.kind = 9) : Spc Tryz.prog 24 #[.pointer (some ⟨pt, 0, none⟩), .int .i64 ((j : Nat) : Int)] Γ (TlH l vd pt pq tv kv ge gc Ht Hk F) (TyQ l vd pt pq ds F (recT l ds (numNd l ds f) S j 0 d)) := by
 obtain ⟨a0, p0, l0, rfl, hp0, hI0, hL0⟩ := hX.mono hle fun _ _ h => h.mono hle
 have hjl := (List.getElem?_eq_some_iff.1 hd).1
 have hO := hok.each j d hd
 have hof := hO.d0.of1
 obtain ⟨bb, oo, cc, rfl, hD, hc⟩ := elemA hI0 hL0 (fun _ _ h => h.len) (w := 11) (by decide) hd
 have hDC := hD
 obtain ⟨_, _, _, _, rfl, ⟨a1, p1, l1, rfl, hq1, hI1, hL1⟩, ⟨a2, p2, l2, rfl, hq2, hI2, hL2⟩, ⟨a3, p3, l3, rfl, hq3, hI3, hL3⟩, ⟨a4, p4, l4, rfl, hq4, hI4, hL4⟩⟩ := hD
 rw [hk] at hc
 refine Spc.body2 Tryz.func24 rfl Tryz.ntmps24 rfl ?_
 refine hz_ ?_
 (refine WL.alloc tab_ok rfl rfl ?_; intro b4)
 refine hz_ ?_
 (refine WL.alloc tab_ok rfl rfl ?_; intro b5)
 refine hz_ ?_
 refine WC.draw 7 (.take 0 (.take 1 (.take 2 (.take 3 (.take 4 (.one 5 (.take 6 (.one 7 .done)))))))) ((b5, cel [.int .i64 9, .string d.name, .int .i64 d.which, .int .i64 d.size, .int .i64 d.of, .slice a1 d.cnts.length p1, .bool d.upper, .bool d.inc, .slice a2 d.mems.length p2, .slice a3 d.pars.length p3, .slice a4 d.cons.length p4] 49) :: []) mixed hsb_ (by decide +kernel) ?_
 refine rz_ ?_
 refine WL.re' (H' := TlH l (.slice (some ⟨bb, oo, none⟩) ds.length p0) pt pq tv kv ge gc Ht Hk ((b5, cel [.int .i64 9, .string d.name, .int .i64 d.which, .int .i64 d.size, .int .i64 d.of, .slice a1 d.cnts.length p1, .bool d.upper, .bool d.inc, .slice a2 d.mems.length p2, .slice a3 d.pars.length p3, .slice a4 d.cons.length p4] 49) :: (b4, cel [.int .i64 0, .string eS, .string eS, .int .i64 0, .int .i64 0, .int .i64 0, .bool false, nilS, nilS, nilS] 46) :: F)) sn_ ?_
 refine WL.call rfl Tryz.call11 rfl rfl (by exact (ih hle hT hof hm)) ?_
 rintro _ Γ1 _ hle1 ⟨T1, tv1, kv1, Ht1, Hk1, ge1, gc1, rfl, hT1, rfl⟩
 refine rz_ ?_
 refine hz_ ?_
 refine WE.drop (b := b5) pk_ ?_
 unfold recT
 rw [if_pos hk]
 exact end_c tab_ok rfl rfl rfl rfl pk_ rfl hle1 ⟨_, T1, tv1, kv1, Ht1, Hk1, ge1, gc1, rfl, ⟨nilS, nilS, nilS, rfl, arrN, arrN, arrN⟩, hT1, rfl⟩
theorem tq12 (ih : TlC Γ0 l ds vd pt pq f) (hok : OkDs l ds) (hX : Arr Γ0 (DfC Γ0) vd ds) (hle : Γ0.le Γ) (hT : TlR Γ ds S T tv kv Ht Hk ge) (hd : ds[j]? = some d) (hm : missN ds S.seen ≤ f) (hk : d.kind = 12) : Spc Tryz.prog 24 #[.pointer (some ⟨pt, 0, none⟩), .int .i64 ((j : Nat) : Int)] Γ (TlH l vd pt pq tv kv ge gc Ht Hk F) (TyQ l vd pt pq ds F (recT l ds (numNd l ds f) S j 0 d)) := by
 obtain ⟨a0, p0, l0, rfl, hp0, hI0, hL0⟩ := hX.mono hle fun _ _ h => h.mono hle
 have hjl := (List.getElem?_eq_some_iff.1 hd).1
 have hO := hok.each j d hd
 have hof := hO.d0.of1
 obtain ⟨bb, oo, cc, rfl, hD, hc⟩ := elemA hI0 hL0 (fun _ _ h => h.len) (w := 11) (by decide) hd
 have hDC := hD
 obtain ⟨_, _, _, _, rfl, ⟨a1, p1, l1, rfl, hq1, hI1, hL1⟩, ⟨a2, p2, l2, rfl, hq2, hI2, hL2⟩, ⟨a3, p3, l3, rfl, hq3, hI3, hL3⟩, ⟨a4, p4, l4, rfl, hq4, hI4, hL4⟩⟩ := hD
 rw [hk] at hc
 refine Spc.body2 Tryz.func24 rfl Tryz.ntmps24 rfl ?_
 refine hz_ ?_
 (refine WL.alloc tab_ok rfl rfl ?_; intro b4)
 refine hz_ ?_
 (refine WL.alloc tab_ok rfl rfl ?_; intro b5)
 refine hz_ ?_
 refine WC.draw 9 (.take 0 (.take 1 (.take 2 (.take 3 (.take 4 (.take 5 (.take 6 (.one 7 (.take 8 (.one 9 .done)))))))))) ((b5, cel [.int .i64 12, .string d.name, .int .i64 d.which, .int .i64 d.size, .int .i64 d.of, .slice a1 d.cnts.length p1, .bool d.upper, .bool d.inc, .slice a2 d.mems.length p2, .slice a3 d.pars.length p3, .slice a4 d.cons.length p4] 49) :: []) mixed hsb_ (by decide +kernel) ?_
 refine rz_ ?_
 refine WL.re' (H' := TlH l (.slice (some ⟨bb, oo, none⟩) ds.length p0) pt pq tv kv ge gc Ht Hk ((b5, cel [.int .i64 12, .string d.name, .int .i64 d.which, .int .i64 d.size, .int .i64 d.of, .slice a1 d.cnts.length p1, .bool d.upper, .bool d.inc, .slice a2 d.mems.length p2, .slice a3 d.pars.length p3, .slice a4 d.cons.length p4] 49) :: (b4, cel [.int .i64 0, .string eS, .string eS, .int .i64 0, .int .i64 0, .int .i64 0, .bool false, nilS, nilS, nilS] 46) :: F)) sn_ ?_
 refine WL.call rfl Tryz.call11 rfl rfl (by exact (ih hle hT hof hm)) ?_
 rintro _ Γ1 _ hle1 ⟨T1, tv1, kv1, Ht1, Hk1, ge1, gc1, rfl, hT1, rfl⟩
 refine rz_ ?_
 refine hz_ ?_
 refine WE.drop (b := b5) pk_ ?_
 unfold recT
 rw [if_neg (by omega), if_pos hk]
 exact end_c tab_ok rfl rfl rfl rfl pk_ rfl hle1 ⟨_, T1, tv1, kv1, Ht1, Hk1, ge1, gc1, rfl, ⟨nilS, nilS, nilS, rfl, arrN, arrN, arrN⟩, hT1, rfl⟩
theorem tq13 (ih : TlC Γ0 l ds vd pt pq f) (hok : OkDs l ds) (hX : Arr Γ0 (DfC Γ0) vd ds) (hle : Γ0.le Γ) (hT : TlR Γ ds S T tv kv Ht Hk ge) (hd : ds[j]? = some d) (hm : missN ds S.seen ≤ f) (hk : d.kind = 13) : Spc Tryz.prog 24 #[.pointer (some ⟨pt, 0, none⟩), .int .i64 ((j : Nat) : Int)] Γ (TlH l vd pt pq tv kv ge gc Ht Hk F) (TyQ l vd pt pq ds F (recT l ds (numNd l ds f) S j 0 d)) := by
 obtain ⟨a0, p0, l0, rfl, hp0, hI0, hL0⟩ := hX.mono hle fun _ _ h => h.mono hle
 have hjl := (List.getElem?_eq_some_iff.1 hd).1
 have hO := hok.each j d hd
 have hof := hO.d0.of1
 obtain ⟨bb, oo, cc, rfl, hD, hc⟩ := elemA hI0 hL0 (fun _ _ h => h.len) (w := 11) (by decide) hd
 have hDC := hD
 obtain ⟨_, _, _, _, rfl, ⟨a1, p1, l1, rfl, hq1, hI1, hL1⟩, ⟨a2, p2, l2, rfl, hq2, hI2, hL2⟩, ⟨a3, p3, l3, rfl, hq3, hI3, hL3⟩, ⟨a4, p4, l4, rfl, hq4, hI4, hL4⟩⟩ := hD
 rw [hk] at hc
 have hw0 := hO.d2.w0
 have hw2 := hO.d2.w2
 refine Spc.body2 Tryz.func24 rfl Tryz.ntmps24 rfl ?_
 refine hz_ ?_
 (refine WL.alloc tab_ok rfl rfl ?_; intro b4)
 refine hz_ ?_
 (refine WL.alloc tab_ok rfl rfl ?_; intro b5)
 refine hz_ ?_
 have hwh : d.which = 0 ∨ d.which = 1 ∨ d.which = 2 := by omega
 rcases hwh with hw | hw | hw
 ·rw [hw] at hc
  rw [hw]
  refine WC.draw 12 (.take 0 (.take 1 (.take 3 (.take 4 (.take 7 (.take 8 (.take 9 (.two 2 10 (.take 5 (.two 6 10 (.one 10 (.take 11 (.one 12 .done))) (.one 6 (.take 11 (.one 12 .done))))) (.one 2 (.take 5 (.one 6 (.take 11 (.one 12 .done))))))))))))) ((b5, cel [.int .i64 13, .string d.name, .int .i64 0, .int .i64 d.size, .int .i64 d.of, .slice a1 d.cnts.length p1, .bool d.upper, .bool d.inc, .slice a2 d.mems.length p2, .slice a3 d.pars.length p3, .slice a4 d.cons.length p4] 49) :: []) mixed hsb_ (by decide +kernel) ?_
  repeat' (first | (refine WD.g ?_; first | refine WD.one rfl ?_ | refine WD.done ?_ | (refine WD.gTake ?_; first | (refine WD.run tab_ok ?_ rfl rfl ?_; (focus (exact np_))) | (refine WD.at_ rfl ?_; (first | (refine WT.gLoad ?_; first | (apply WT.load; exact np_; exact rfl; exact rfl; exact hld_) | (apply WT.loadG; exact np_; exact rfl; exact rfl; exact rfl; exact hld_)) | (refine WT.gIdx ?_; first | (refine WT.idx tab_ok ?_ rfl rfl rfl rfl rfl ?_ ?_ ?_; (focus (exact np_)); (focus omega); (focus omega)) | (refine WT.idxG tab_ok ?_ rfl rfl rfl rfl rfl rfl ?_ ?_ ?_; (focus (exact np_)); (focus omega); (focus omega))) | (refine WT.gSlice ?_; refine WT.slLo tab_ok ?_ rfl rfl rfl rfl rfl ?_ ?_ ?_ ?_; (focus (exact np_)); (focus omega); (focus omega); (focus omega)) | (refine WT.gBuild ?_; refine WT.build tab_ok np_ rfl rfl spi_ ?_) | (refine WT.pure tab_ok ?_ rfl rfl ?_; (focus (exact np_))) | (refine WT.pureG tab_ok ?_ rfl rfl rfl ?_; (focus (exact np_))) | (refine WT.noG ?_ rfl rfl rfl ?_; (focus (exact np_))))))) | (refine WL.g ?_; first | refine WL.nil ?_ | refine WL.run tab_ok rfl rfl ?_ | (refine WL.gLoad ?_; first | refine WL.ld tab_ok rfl rfl rfl pk_ rfl rfl ?_ | refine WL.ldA tab_ok rfl rfl rfl pk_ cut_ rfl ?_ | refine WL.ldI tab_ok rfl rfl rfl (by assumption) rfl ?_ | refine WL.ldR tab_ok rfl rfl rfl hrd_ rfl ?_ | refine WL.ldAI tab_ok rfl rfl rfl (by assumption) rfl rfl ?_) | (refine WL.gStore ?_; refine WL.st tab_ok rfl rfl rfl pk_ spl_ rfl rfl ?_) | (refine WL.gIdx ?_; refine WL.idx tab_ok rfl rfl rfl rfl (by omega) (by omega) rfl ?_) | (refine WL.gBuild ?_; refine WL.build tab_ok rfl spi_ rfl ?_) | (refine WL.gSlice ?_; first | refine WL.slLo tab_ok rfl rfl rfl rfl (by omega) (by omega) (by omega) rfl ?_ | refine WL.slHi tab_ok rfl rfl rfl rfl (by omega) (by omega) rfl ?_ | refine WL.slLH tab_ok rfl rfl rfl rfl rfl (by omega) (by omega) (by omega) rfl ?_) | (refine WL.gBin ?_; first | refine WL.pure tab_ok (evalP_shl rfl rfl (by omega)) rfl ?_ | refine WL.pure tab_ok (evalP_shr rfl rfl (by omega)) rfl ?_) | refine WL.pure tab_ok rfl rfl ?_ | (refine WL.gGuard ?_; first | refine WL.yes rfl rfl rfl ?_ | refine WL.no rfl rfl rfl rfl rfl ?_ | refine WL.noU rfl rfl rfl rfl ?_)) | (refine WE.g ?_; first | refine WE.then_ ?_ | refine WE.thenX rfl ?_ | refine WE.block_n ?_ | refine WE.block_x ?_ | refine WE.block_y rfl ?_ | refine WE.block_r ?_ | apply WE.drawnL | (apply WE.drawn; exact (by first | exact Env.le.rfl' _ | assumption); exact hsb_) | refine WE.ng_n ?_ | refine WE.ng_r ?_ | refine WE.ng_x ?_ | refine WE.np_n ?_ | refine WE.np_r ?_ | refine WE.np_x ?_) | refine WD.two rfl rfl ?_ ?_ | (refine WL.lit tab_ok rfl rfl rfl rfl rfl rfl rfl spi_ rfl ?_; intro bq) | (refine WL.re' (H' := TlH l (.slice (some ⟨bb, oo, none⟩) ds.length p0) pt pq tv kv ge gc Ht Hk _) sn_ ?_; refine WL.call rfl Tryz.call11 rfl rfl (by exact (ih hle hT hof hm)) ?_; rintro _ Γ1 _ hle1 ⟨T1, tv1, kv1, Ht1, Hk1, ge1, gc1, rfl, hT1, rfl⟩))
  all_goals refine hz_ ?_
  all_goals refine WE.drop (b := b5) pk_ ?_
  all_goals refine WE.drop (b := bq) pk_ ?_
  all_goals unfold recT
  all_goals rw [if_neg (by omega), if_neg (by omega), if_pos hk, hw]
  all_goals exact end_c tab_ok rfl rfl rfl rfl pk_ rfl hle1 ⟨_, T1, tv1, kv1, Ht1, Hk1, ge1, gc1, rfl, ⟨nilS, nilS, nilS, rfl, arrN, arrN, arrN⟩, hT1, rfl⟩
 ·rw [hw] at hc
  rw [hw]
  refine WC.draw 12 (.take 0 (.take 1 (.take 3 (.take 4 (.take 7 (.take 8 (.take 9 (.two 2 10 (.take 5 (.two 6 10 (.one 10 (.take 11 (.one 12 .done))) (.one 6 (.take 11 (.one 12 .done))))) (.one 2 (.take 5 (.one 6 (.take 11 (.one 12 .done))))))))))))) ((b5, cel [.int .i64 13, .string d.name, .int .i64 1, .int .i64 d.size, .int .i64 d.of, .slice a1 d.cnts.length p1, .bool d.upper, .bool d.inc, .slice a2 d.mems.length p2, .slice a3 d.pars.length p3, .slice a4 d.cons.length p4] 49) :: []) mixed hsb_ (by decide +kernel) ?_
  repeat' (first | (refine WD.g ?_; first | refine WD.one rfl ?_ | refine WD.done ?_ | (refine WD.gTake ?_; first | (refine WD.run tab_ok ?_ rfl rfl ?_; (focus (exact np_))) | (refine WD.at_ rfl ?_; (first | (refine WT.gLoad ?_; first | (apply WT.load; exact np_; exact rfl; exact rfl; exact hld_) | (apply WT.loadG; exact np_; exact rfl; exact rfl; exact rfl; exact hld_)) | (refine WT.gIdx ?_; first | (refine WT.idx tab_ok ?_ rfl rfl rfl rfl rfl ?_ ?_ ?_; (focus (exact np_)); (focus omega); (focus omega)) | (refine WT.idxG tab_ok ?_ rfl rfl rfl rfl rfl rfl ?_ ?_ ?_; (focus (exact np_)); (focus omega); (focus omega))) | (refine WT.gSlice ?_; refine WT.slLo tab_ok ?_ rfl rfl rfl rfl rfl ?_ ?_ ?_ ?_; (focus (exact np_)); (focus omega); (focus omega); (focus omega)) | (refine WT.gBuild ?_; refine WT.build tab_ok np_ rfl rfl spi_ ?_) | (refine WT.pure tab_ok ?_ rfl rfl ?_; (focus (exact np_))) | (refine WT.pureG tab_ok ?_ rfl rfl rfl ?_; (focus (exact np_))) | (refine WT.noG ?_ rfl rfl rfl ?_; (focus (exact np_))))))) | (refine WL.g ?_; first | refine WL.nil ?_ | refine WL.run tab_ok rfl rfl ?_ | (refine WL.gLoad ?_; first | refine WL.ld tab_ok rfl rfl rfl pk_ rfl rfl ?_ | refine WL.ldA tab_ok rfl rfl rfl pk_ cut_ rfl ?_ | refine WL.ldI tab_ok rfl rfl rfl (by assumption) rfl ?_ | refine WL.ldR tab_ok rfl rfl rfl hrd_ rfl ?_ | refine WL.ldAI tab_ok rfl rfl rfl (by assumption) rfl rfl ?_) | (refine WL.gStore ?_; refine WL.st tab_ok rfl rfl rfl pk_ spl_ rfl rfl ?_) | (refine WL.gIdx ?_; refine WL.idx tab_ok rfl rfl rfl rfl (by omega) (by omega) rfl ?_) | (refine WL.gBuild ?_; refine WL.build tab_ok rfl spi_ rfl ?_) | (refine WL.gSlice ?_; first | refine WL.slLo tab_ok rfl rfl rfl rfl (by omega) (by omega) (by omega) rfl ?_ | refine WL.slHi tab_ok rfl rfl rfl rfl (by omega) (by omega) rfl ?_ | refine WL.slLH tab_ok rfl rfl rfl rfl rfl (by omega) (by omega) (by omega) rfl ?_) | (refine WL.gBin ?_; first | refine WL.pure tab_ok (evalP_shl rfl rfl (by omega)) rfl ?_ | refine WL.pure tab_ok (evalP_shr rfl rfl (by omega)) rfl ?_) | refine WL.pure tab_ok rfl rfl ?_ | (refine WL.gGuard ?_; first | refine WL.yes rfl rfl rfl ?_ | refine WL.no rfl rfl rfl rfl rfl ?_ | refine WL.noU rfl rfl rfl rfl ?_)) | (refine WE.g ?_; first | refine WE.then_ ?_ | refine WE.thenX rfl ?_ | refine WE.block_n ?_ | refine WE.block_x ?_ | refine WE.block_y rfl ?_ | refine WE.block_r ?_ | apply WE.drawnL | (apply WE.drawn; exact (by first | exact Env.le.rfl' _ | assumption); exact hsb_) | refine WE.ng_n ?_ | refine WE.ng_r ?_ | refine WE.ng_x ?_ | refine WE.np_n ?_ | refine WE.np_r ?_ | refine WE.np_x ?_) | refine WD.two rfl rfl ?_ ?_ | (refine WL.lit tab_ok rfl rfl rfl rfl rfl rfl rfl spi_ rfl ?_; intro bq) | (refine WL.re' (H' := TlH l (.slice (some ⟨bb, oo, none⟩) ds.length p0) pt pq tv kv ge gc Ht Hk _) sn_ ?_; refine WL.call rfl Tryz.call11 rfl rfl (by exact (ih hle hT hof hm)) ?_; rintro _ Γ1 _ hle1 ⟨T1, tv1, kv1, Ht1, Hk1, ge1, gc1, rfl, hT1, rfl⟩))
  all_goals refine hz_ ?_
  all_goals refine WE.drop (b := b5) pk_ ?_
  all_goals refine WE.drop (b := bq) pk_ ?_
  all_goals unfold recT
  all_goals rw [if_neg (by omega), if_neg (by omega), if_pos hk, hw]
  all_goals exact end_c tab_ok rfl rfl rfl rfl pk_ rfl hle1 ⟨_, T1, tv1, kv1, Ht1, Hk1, ge1, gc1, rfl, ⟨nilS, nilS, nilS, rfl, arrN, arrN, arrN⟩, hT1, rfl⟩
 ·rw [hw] at hc
  rw [hw]
  refine WC.draw 12 (.take 0 (.take 1 (.take 3 (.take 4 (.take 7 (.take 8 (.take 9 (.two 2 10 (.take 5 (.two 6 10 (.one 10 (.take 11 (.one 12 .done))) (.one 6 (.take 11 (.one 12 .done))))) (.one 2 (.take 5 (.one 6 (.take 11 (.one 12 .done))))))))))))) ((b5, cel [.int .i64 13, .string d.name, .int .i64 2, .int .i64 d.size, .int .i64 d.of, .slice a1 d.cnts.length p1, .bool d.upper, .bool d.inc, .slice a2 d.mems.length p2, .slice a3 d.pars.length p3, .slice a4 d.cons.length p4] 49) :: []) mixed hsb_ (by decide +kernel) ?_
  repeat' (first | (refine WD.g ?_; first | refine WD.one rfl ?_ | refine WD.done ?_ | (refine WD.gTake ?_; first | (refine WD.run tab_ok ?_ rfl rfl ?_; (focus (exact np_))) | (refine WD.at_ rfl ?_; (first | (refine WT.gLoad ?_; first | (apply WT.load; exact np_; exact rfl; exact rfl; exact hld_) | (apply WT.loadG; exact np_; exact rfl; exact rfl; exact rfl; exact hld_)) | (refine WT.gIdx ?_; first | (refine WT.idx tab_ok ?_ rfl rfl rfl rfl rfl ?_ ?_ ?_; (focus (exact np_)); (focus omega); (focus omega)) | (refine WT.idxG tab_ok ?_ rfl rfl rfl rfl rfl rfl ?_ ?_ ?_; (focus (exact np_)); (focus omega); (focus omega))) | (refine WT.gSlice ?_; refine WT.slLo tab_ok ?_ rfl rfl rfl rfl rfl ?_ ?_ ?_ ?_; (focus (exact np_)); (focus omega); (focus omega); (focus omega)) | (refine WT.gBuild ?_; refine WT.build tab_ok np_ rfl rfl spi_ ?_) | (refine WT.pure tab_ok ?_ rfl rfl ?_; (focus (exact np_))) | (refine WT.pureG tab_ok ?_ rfl rfl rfl ?_; (focus (exact np_))) | (refine WT.noG ?_ rfl rfl rfl ?_; (focus (exact np_))))))) | (refine WL.g ?_; first | refine WL.nil ?_ | refine WL.run tab_ok rfl rfl ?_ | (refine WL.gLoad ?_; first | refine WL.ld tab_ok rfl rfl rfl pk_ rfl rfl ?_ | refine WL.ldA tab_ok rfl rfl rfl pk_ cut_ rfl ?_ | refine WL.ldI tab_ok rfl rfl rfl (by assumption) rfl ?_ | refine WL.ldR tab_ok rfl rfl rfl hrd_ rfl ?_ | refine WL.ldAI tab_ok rfl rfl rfl (by assumption) rfl rfl ?_) | (refine WL.gStore ?_; refine WL.st tab_ok rfl rfl rfl pk_ spl_ rfl rfl ?_) | (refine WL.gIdx ?_; refine WL.idx tab_ok rfl rfl rfl rfl (by omega) (by omega) rfl ?_) | (refine WL.gBuild ?_; refine WL.build tab_ok rfl spi_ rfl ?_) | (refine WL.gSlice ?_; first | refine WL.slLo tab_ok rfl rfl rfl rfl (by omega) (by omega) (by omega) rfl ?_ | refine WL.slHi tab_ok rfl rfl rfl rfl (by omega) (by omega) rfl ?_ | refine WL.slLH tab_ok rfl rfl rfl rfl rfl (by omega) (by omega) (by omega) rfl ?_) | (refine WL.gBin ?_; first | refine WL.pure tab_ok (evalP_shl rfl rfl (by omega)) rfl ?_ | refine WL.pure tab_ok (evalP_shr rfl rfl (by omega)) rfl ?_) | refine WL.pure tab_ok rfl rfl ?_ | (refine WL.gGuard ?_; first | refine WL.yes rfl rfl rfl ?_ | refine WL.no rfl rfl rfl rfl rfl ?_ | refine WL.noU rfl rfl rfl rfl ?_)) | (refine WE.g ?_; first | refine WE.then_ ?_ | refine WE.thenX rfl ?_ | refine WE.block_n ?_ | refine WE.block_x ?_ | refine WE.block_y rfl ?_ | refine WE.block_r ?_ | apply WE.drawnL | (apply WE.drawn; exact (by first | exact Env.le.rfl' _ | assumption); exact hsb_) | refine WE.ng_n ?_ | refine WE.ng_r ?_ | refine WE.ng_x ?_ | refine WE.np_n ?_ | refine WE.np_r ?_ | refine WE.np_x ?_) | refine WD.two rfl rfl ?_ ?_ | (refine WL.lit tab_ok rfl rfl rfl rfl rfl rfl rfl spi_ rfl ?_; intro bq) | (refine WL.re' (H' := TlH l (.slice (some ⟨bb, oo, none⟩) ds.length p0) pt pq tv kv ge gc Ht Hk _) sn_ ?_; refine WL.call rfl Tryz.call11 rfl rfl (by exact (ih hle hT hof hm)) ?_; rintro _ Γ1 _ hle1 ⟨T1, tv1, kv1, Ht1, Hk1, ge1, gc1, rfl, hT1, rfl⟩))
  all_goals refine hz_ ?_
  all_goals refine WE.drop (b := b5) pk_ ?_
  all_goals refine WE.drop (b := bq) pk_ ?_
  all_goals unfold recT
  all_goals rw [if_neg (by omega), if_neg (by omega), if_pos hk, hw]
  all_goals exact end_c tab_ok rfl rfl rfl rfl pk_ rfl hle1 ⟨_, T1, tv1, kv1, Ht1, Hk1, ge1, gc1, rfl, ⟨nilS, nilS, nilS, rfl, arrN, arrN, arrN⟩, hT1, rfl⟩
theorem tq11 (ih : TlC Γ0 l ds vd pt pq f) (hok : OkDs l ds) (hX : Arr Γ0 (DfC Γ0) vd ds) (hle : Γ0.le Γ) (hT : TlR Γ ds S T tv kv Ht Hk ge) (hd : ds[j]? = some d) (hm : missN ds S.seen ≤ f) (hk : d.kind = 11) (iha : TlA Γ0 l ds vd pt pq f) (hs0 : (j, 0) ∈ S.seen) (hs1 : (j, 1) ∉ S.seen) : Spc Tryz.prog 24 #[.pointer (some ⟨pt, 0, none⟩), .int .i64 ((j : Nat) : Int)] Γ (TlH l vd pt pq tv kv ge gc Ht Hk F) (TyQ l vd pt pq ds F (recT l ds (numNd l ds f) S j 0 d)) := by
 obtain ⟨a0, p0, l0, rfl, hp0, hI0, hL0⟩ := hX.mono hle fun _ _ h => h.mono hle
 have hjl := (List.getElem?_eq_some_iff.1 hd).1
 have hO := hok.each j d hd
 have hof := hO.d0.of1
 obtain ⟨bb, oo, cc, rfl, hD, hc⟩ := elemA hI0 hL0 (fun _ _ h => h.len) (w := 11) (by decide) hd
 have hDC := hD
 obtain ⟨_, _, _, _, rfl, ⟨a1, p1, l1, rfl, hq1, hI1, hL1⟩, ⟨a2, p2, l2, rfl, hq2, hI2, hL2⟩, ⟨a3, p3, l3, rfl, hq3, hI3, hL3⟩, ⟨a4, p4, l4, rfl, hq4, hI4, hL4⟩⟩ := hD
 rw [hk] at hc
 have harr := hO.arrn hk
 obtain ⟨z, hz⟩ : ∃ z, d.cnts[0]? = some z := ⟨_, List.getElem?_eq_getElem harr⟩
 obtain ⟨bz, oz, _, rfl, hzP, hzc⟩ := elemA hI1 hL1 (fun _ _ h => NumC.len h) (w := 1) (by decide) hz
 cases hzP
 have hz0 : Γ.cell bz (oz + (0 : Int).toNat * 1) = some (.int .i64 z) := hzc.1
 have hgd : d.cnts.getD 0 0 = z := by rw [List.getD_eq_getElem?_getD, hz]; rfl
 refine Spc.body2 Tryz.func24 rfl Tryz.ntmps24 rfl ?_
 refine hz_ ?_
 (refine WL.alloc tab_ok rfl rfl ?_; intro b4)
 refine hz_ ?_
 (refine WL.alloc tab_ok rfl rfl ?_; intro b5)
 refine hz_ ?_
 refine WC.draw 10 (.take 0 (.take 1 (.take 2 (.take 3 (.take 4 (.take 5 (.take 6 (.take 7 (.one 8 (.take 9 (.one 10 .done))))))))))) ((b5, cel [.int .i64 11, .string d.name, .int .i64 d.which, .int .i64 d.size, .int .i64 d.of, .slice (some ⟨bz, oz, none⟩) d.cnts.length p1, .bool d.upper, .bool d.inc, .slice a2 d.mems.length p2, .slice a3 d.pars.length p3, .slice a4 d.cons.length p4] 49) :: []) mixed hsb_ (by decide +kernel) ?_
 refine rz_ ?_
 refine WL.re' (H' := TlH l (.slice (some ⟨bb, oo, none⟩) ds.length p0) pt pq tv kv ge gc Ht Hk ((b5, cel [.int .i64 11, .string d.name, .int .i64 d.which, .int .i64 d.size, .int .i64 d.of, .slice (some ⟨bz, oz, none⟩) d.cnts.length p1, .bool d.upper, .bool d.inc, .slice a2 d.mems.length p2, .slice a3 d.pars.length p3, .slice a4 d.cons.length p4] 49) :: (b4, cel [.int .i64 0, .string eS, .string eS, .int .i64 0, .int .i64 0, .int .i64 0, .bool false, nilS, nilS, nilS] 46) :: F)) sn_ ?_
 refine WL.call rfl Tryz.call36 rfl rfl (by exact (iha (q := 0) (d := d) (c := [.int .i64 11, .string d.name, .int .i64 d.which, .int .i64 d.size, .int .i64 d.of, .slice (some ⟨bz, oz, none⟩) d.cnts.length p1, .bool d.upper, .bool d.inc, .slice a2 d.mems.length p2, .slice a3 d.pars.length p3, .slice a4 d.cons.length p4]) hle hT hd hk harr hs0 hs1 (by have := hDC; rw [hk] at this; exact this) hm)) ?_
 rintro _ Γ1 _ hle1 ⟨T1, tv1, kv1, Ht1, Hk1, ge1, gc1, rfl, hT1, rfl⟩
 refine rz_ ?_
 refine hz_ ?_
 refine WE.drop (b := b5) pk_ ?_
 unfold recT
 rw [if_neg (by omega), if_neg (by omega), if_neg (by omega), if_pos hk, hgd]
 exact end_c tab_ok rfl rfl rfl rfl pk_ rfl hle1 ⟨_, T1, tv1, kv1, Ht1, Hk1, ge1, gc1, rfl, ⟨nilS, nilS, nilS, rfl, arrN, arrN, arrN⟩, hT1, rfl⟩
theorem tq14 (ih : TlC Γ0 l ds vd pt pq f) (hok : OkDs l ds) (hX : Arr Γ0 (DfC Γ0) vd ds) (hle : Γ0.le Γ) (hT : TlR Γ ds S T tv kv Ht Hk ge) (hd : ds[j]? = some d) (hm : missN ds S.seen ≤ f) (hk : d.kind = 14) : Spc Tryz.prog 24 #[.pointer (some ⟨pt, 0, none⟩), .int .i64 ((j : Nat) : Int)] Γ (TlH l vd pt pq tv kv ge gc Ht Hk F) (TyQ l vd pt pq ds F (recT l ds (numNd l ds f) S j 0 d)) := by
 obtain ⟨a0, p0, l0, rfl, hp0, hI0, hL0⟩ := hX.mono hle fun _ _ h => h.mono hle
 have hjl := (List.getElem?_eq_some_iff.1 hd).1
 have hO := hok.each j d hd
 have hof := hO.d0.of1
 obtain ⟨bb, oo, cc, rfl, hD, hc⟩ := elemA hI0 hL0 (fun _ _ h => h.len) (w := 11) (by decide) hd
 have hDC := hD
 obtain ⟨_, _, _, _, rfl, ⟨a1, p1, l1, rfl, hq1, hI1, hL1⟩, ⟨a2, p2, l2, rfl, hq2, hI2, hL2⟩, ⟨a3, p3, l3, rfl, hq3, hI3, hL3⟩, ⟨a4, p4, l4, rfl, hq4, hI4, hL4⟩⟩ := hD
 rw [hk] at hc
 refine Spc.body2 Tryz.func24 rfl Tryz.ntmps24 rfl ?_
 refine hz_ ?_
 (refine WL.alloc tab_ok rfl rfl ?_; intro b4)
 refine hz_ ?_
 (refine WL.alloc tab_ok rfl rfl ?_; intro b5)
 refine hz_ ?_
 refine hz_ ?_
 refine hz_ ?_
 refine WE.drop (b := b5) pk_ ?_
 unfold recT
 rw [if_neg (by omega), if_neg (by omega), if_neg (by omega), if_neg (by omega), if_neg (by omega), if_neg (by omega), if_pos hk]
 exact end_c tab_ok rfl rfl rfl rfl pk_ rfl (Env.le.rfl' _) ⟨_, T, tv, kv, Ht, Hk, ge, gc, rfl, ⟨nilS, nilS, _, rfl, arrN, arrN, ⟨a4, p4, l4, rfl, hq4, hI4, hL4⟩⟩, hT, rfl⟩
theorem tq15 (ih : TlC Γ0 l ds vd pt pq f) (hok : OkDs l ds) (hX : Arr Γ0 (DfC Γ0) vd ds) (hle : Γ0.le Γ) (hT : TlR Γ ds S T tv kv Ht Hk ge) (hd : ds[j]? = some d) (hm : missN ds S.seen ≤ f) (hk : d.kind = 15) : Spc Tryz.prog 24 #[.pointer (some ⟨pt, 0, none⟩), .int .i64 ((j : Nat) : Int)] Γ (TlH l vd pt pq tv kv ge gc Ht Hk F) (TyQ l vd pt pq ds F (recT l ds (numNd l ds f) S j 0 d)) := by
 obtain ⟨a0, p0, l0, rfl, hp0, hI0, hL0⟩ := hX.mono hle fun _ _ h => h.mono hle
 have hjl := (List.getElem?_eq_some_iff.1 hd).1
 have hO := hok.each j d hd
 have hof := hO.d0.of1
 obtain ⟨bb, oo, cc, rfl, hD, hc⟩ := elemA hI0 hL0 (fun _ _ h => h.len) (w := 11) (by decide) hd
 have hDC := hD
 obtain ⟨_, _, _, _, rfl, ⟨a1, p1, l1, rfl, hq1, hI1, hL1⟩, ⟨a2, p2, l2, rfl, hq2, hI2, hL2⟩, ⟨a3, p3, l3, rfl, hq3, hI3, hL3⟩, ⟨a4, p4, l4, rfl, hq4, hI4, hL4⟩⟩ := hD
 rw [hk] at hc
 have hcl := hO.d0.parl
 refine Spc.body2 Tryz.func24 rfl Tryz.ntmps24 rfl ?_
 refine hz_ ?_
 (refine WL.alloc tab_ok rfl rfl ?_; intro b4)
 refine hz_ ?_
 (refine WL.alloc tab_ok rfl rfl ?_; intro b5)
 refine hz_ ?_
 refine WC.cutM (fun R' Γ' H' => ∃ b6 T1 tv1 kv1 Ht1 Hk1 ge1 gc1, R' = [(0, .pointer (some ⟨pt, 0, none⟩)), (4, .pointer (some ⟨b4, 0, none⟩)), (5, .pointer (some ⟨b5, 0, none⟩)), (6, .pointer (some ⟨b6, 0, none⟩))] ∧ Γ.le Γ' ∧ TlR Γ' ds (numOf (numNd l ds f) S d.of).1 T1 tv1 kv1 Ht1 Hk1 ge1 ∧
  H' = TlH l (.slice (some ⟨bb, oo, none⟩) ds.length p0) pt pq tv1 kv1 ge1 gc1 Ht1 Hk1 ((b6, cel [.int .i64 15, .string eS, .string eS, .int .i64 0, .int .i64 (numOf (numNd l ds f) S d.of).2, .int .i64 0, .bool false, nilS, nilS, nilS] 46) :: (b5, cel [.int .i64 15, .string d.name, .int .i64 d.which, .int .i64 d.size, .int .i64 d.of, .slice a1 d.cnts.length p1, .bool d.upper, .bool d.inc, .slice a2 d.mems.length p2, .slice a3 d.pars.length p3, .slice a4 d.cons.length p4] 49) :: (b4, cel [.int .i64 0, .string eS, .string eS, .int .i64 0, .int .i64 0, .int .i64 0, .bool false, nilS, nilS, nilS] 46) :: F)) ?_ ?_
 ·refine WC.draw 8 (.take 0 (.take 1 (.take 2 (.take 3 (.take 4 (.two 5 7 (.take 6 (.one 7 (.one 8 .done))) (.one 5 (.take 6 (.one 8 .done))))))))) ((b5, cel [.int .i64 15, .string d.name, .int .i64 d.which, .int .i64 d.size, .int .i64 d.of, .slice a1 d.cnts.length p1, .bool d.upper, .bool d.inc, .slice a2 d.mems.length p2, .slice a3 d.pars.length p3, .slice a4 d.cons.length p4] 49) :: []) mixed hsb_ (by decide +kernel) ?_
  refine rz_ ?_
  repeat' (first | (refine WD.g ?_; first | refine WD.one rfl ?_ | refine WD.done ?_ | (refine WD.gTake ?_; first | (refine WD.run tab_ok ?_ rfl rfl ?_; (focus (exact np_))) | (refine WD.at_ rfl ?_; (first | (refine WT.gLoad ?_; first | (apply WT.load; exact np_; exact rfl; exact rfl; exact hld_) | (apply WT.loadG; exact np_; exact rfl; exact rfl; exact rfl; exact hld_)) | (refine WT.gIdx ?_; first | (refine WT.idx tab_ok ?_ rfl rfl rfl rfl rfl ?_ ?_ ?_; (focus (exact np_)); (focus omega); (focus omega)) | (refine WT.idxG tab_ok ?_ rfl rfl rfl rfl rfl rfl ?_ ?_ ?_; (focus (exact np_)); (focus omega); (focus omega))) | (refine WT.gSlice ?_; refine WT.slLo tab_ok ?_ rfl rfl rfl rfl rfl ?_ ?_ ?_ ?_; (focus (exact np_)); (focus omega); (focus omega); (focus omega)) | (refine WT.gBuild ?_; refine WT.build tab_ok np_ rfl rfl spi_ ?_) | (refine WT.pure tab_ok ?_ rfl rfl ?_; (focus (exact np_))) | (refine WT.pureG tab_ok ?_ rfl rfl rfl ?_; (focus (exact np_))) | (refine WT.noG ?_ rfl rfl rfl ?_; (focus (exact np_))))))) | (refine WL.g ?_; first | refine WL.nil ?_ | refine WL.run tab_ok rfl rfl ?_ | (refine WL.gLoad ?_; first | refine WL.ld tab_ok rfl rfl rfl pk_ rfl rfl ?_ | refine WL.ldA tab_ok rfl rfl rfl pk_ cut_ rfl ?_ | refine WL.ldI tab_ok rfl rfl rfl (by assumption) rfl ?_ | refine WL.ldR tab_ok rfl rfl rfl hrd_ rfl ?_ | refine WL.ldAI tab_ok rfl rfl rfl (by assumption) rfl rfl ?_) | (refine WL.gStore ?_; refine WL.st tab_ok rfl rfl rfl pk_ spl_ rfl rfl ?_) | (refine WL.gIdx ?_; refine WL.idx tab_ok rfl rfl rfl rfl (by omega) (by omega) rfl ?_) | (refine WL.gBuild ?_; refine WL.build tab_ok rfl spi_ rfl ?_) | (refine WL.gSlice ?_; first | refine WL.slLo tab_ok rfl rfl rfl rfl (by omega) (by omega) (by omega) rfl ?_ | refine WL.slHi tab_ok rfl rfl rfl rfl (by omega) (by omega) rfl ?_ | refine WL.slLH tab_ok rfl rfl rfl rfl rfl (by omega) (by omega) (by omega) rfl ?_) | (refine WL.gBin ?_; first | refine WL.pure tab_ok (evalP_shl rfl rfl (by omega)) rfl ?_ | refine WL.pure tab_ok (evalP_shr rfl rfl (by omega)) rfl ?_) | refine WL.pure tab_ok rfl rfl ?_ | (refine WL.gGuard ?_; first | refine WL.yes rfl rfl rfl ?_ | refine WL.no rfl rfl rfl rfl rfl ?_ | refine WL.noU rfl rfl rfl rfl ?_)) | (refine WE.g ?_; first | refine WE.then_ ?_ | refine WE.thenX rfl ?_ | refine WE.block_n ?_ | refine WE.block_x ?_ | refine WE.block_y rfl ?_ | refine WE.block_r ?_ | apply WE.drawnL | (apply WE.drawn; exact (by first | exact Env.le.rfl' _ | assumption); exact hsb_) | refine WE.ng_n ?_ | refine WE.ng_r ?_ | refine WE.ng_x ?_ | refine WE.np_n ?_ | refine WE.np_r ?_ | refine WE.np_x ?_) | refine WD.two rfl rfl ?_ ?_ | (refine WL.alloc tab_ok rfl rfl ?_; intro b6) | (refine WL.re' (H' := TlH l (.slice (some ⟨bb, oo, none⟩) ds.length p0) pt pq tv kv ge gc Ht Hk _) sn_ ?_; refine WL.call rfl Tryz.call11 rfl rfl (by exact (ih hle hT hof hm)) ?_; rintro _ Γ1 _ hle1 ⟨T1, tv1, kv1, Ht1, Hk1, ge1, gc1, rfl, hT1, rfl⟩))
  all_goals refine hz_ ?_
  all_goals exact WE.mid ⟨b6, T1, tv1, kv1, Ht1, Hk1, ge1, gc1, rfl, hle1, hT1, rfl⟩ sr_ sn_
 rintro R' Γ1 H' ⟨b6, T1, tv1, kv1, Ht1, Hk1, ge1, gc1, rfl, hle1, hT1, rfl⟩
 refine hz_ ?_
 refine WC.loopE (fun m R' Γ' H' => ∃ k vc cells Hd T' tv' kv' Ht' Hk' ge' gc', R' = [(0, .pointer (some ⟨pt, 0, none⟩)), (4, .pointer (some ⟨b4, 0, none⟩)), (6, .pointer (some ⟨b6, 0, none⟩)), (86, .slice a3 d.pars.length p3), (87, .int .i64 (d.pars.length : Int)), (88, .int .i64 ((k : Nat) : Int))] ∧ m = d.pars.length - k ∧ k ≤ d.pars.length ∧ Γ1.le Γ' ∧
   Ow 1 vc k cells Hd ∧ LisC NumC (numsP (numNd l ds f) (numOf (numNd l ds f) S d.of).1 (d.pars.take k)).2 cells ∧ TlR Γ' ds (numsP (numNd l ds f) (numOf (numNd l ds f) S d.of).1 (d.pars.take k)).1 T' tv' kv' Ht' Hk' ge' ∧
   H' = TlH l (.slice (some ⟨bb, oo, none⟩) ds.length p0) pt pq tv' kv' ge' gc' Ht' Hk' ((b6, cel [.int .i64 15, .string eS, .string eS, .int .i64 0, .int .i64 (numOf (numNd l ds f) S d.of).2, .int .i64 0, .bool false, nilS, vc, nilS] 46) :: (b4, cel [.int .i64 0, .string eS, .string eS, .int .i64 0, .int .i64 0, .int .i64 0, .bool false, nilS, nilS, nilS] 46) :: (Hd ++ F)))
  ⟨0, nilS, [], [], T1, tv1, kv1, Ht1, Hk1, ge1, gc1, rfl, rfl, Nat.zero_le _, Env.le.rfl' _, Ow.nil, rfl, hT1, rfl⟩ sr_ sn_ ?_
 rintro m R' Γ2 H' ⟨k, vc, cells, Hd, T2, tv2, kv2, Ht2, Hk2, ge2, gc2, rfl, rfl, hkl, hle2, how, hL, hT2, rfl⟩
 obtain ⟨a9, c9, rfl⟩ := Ow.shape how
 rcases Nat.lt_or_ge k d.pars.length with hlt | hge
 case inr =>
  have ek : k = d.pars.length := by omega
  subst ek
  rw [List.take_length] at hL hT2
  refine hz_ ?_
  refine WC.condF rfl (decide_eq_false (by omega)) ?_
  refine hz_ ?_
  refine WE.keep how tk_ (fun Γ4 hle4 him => ?_)
  refine WE.drop (b := b6) pk_ ?_
  unfold recT
  rw [if_neg (by omega), if_neg (by omega), if_neg (by omega), if_neg (by omega), if_pos hk]
  have hpl : (numsP (numNd l ds f) (numOf (numNd l ds f) S d.of).1 d.pars).2.length = d.pars.length := numsP_len _ _ _
  have him' : Im Γ4 (.slice a9 d.pars.length c9) (numsP (numNd l ds f) (numOf (numNd l ds f) S d.of).1 d.pars).2.length cells := by rw [hpl]; exact him
  have hAr := Im.arr him' hL
  exact end_c tab_ok rfl rfl rfl rfl pk_ rfl (hle1.trans (hle2.trans hle4)) ⟨_, T2, tv2, kv2, Ht2, Hk2, ge2, gc2, rfl, ⟨nilS, .slice a9 d.pars.length c9, nilS, rfl, arrN, hAr, arrN⟩, hT2.mono hle4, rfl⟩
 obtain ⟨x, hx⟩ : ∃ x, d.pars[k]? = some x := ⟨_, List.getElem?_eq_getElem hlt⟩
 have hxl : d.pars.take (k + 1) = d.pars.take k ++ [x] := by rw [List.take_add_one, hx]; rfl
 obtain ⟨bx, ox, cx, rfl, hPx, hcx⟩ := elemA hI3 hL3 (fun _ _ h => NumC.len h) (w := 1) (by decide) hx
 cases hPx
 have hc0 := (hle1.trans hle2).cell hcx.1
 have hxn : x < ds.length := by rcases hO.par x (List.mem_of_getElem? hx) with h | h <;> omega
 have hwi : IntKind.i64.wrap (((k : Nat) : Int) + 1) = ((k + 1 : Nat) : Int) := by rw [w_i64 (by omega) (by omega)]; omega
 have hm2 : missN ds (numsP (numNd l ds f) (numOf (numNd l ds f) S d.of).1 (d.pars.take k)).1.seen ≤ f := Nat.le_trans (missN_le (fun y hy => numsP_sub (numNd_sub f) _ _ y (numOf_sub (numNd_sub f) _ _ y hy))) hm
 refine hz_ ?_
 refine WC.condT rfl tr_ ?_
 refine hz_ ?_
 refine WC.draw 8 (.take 0 (.take 1 (.take 2 (.take 3 (.one 4 (.one 5 (.one 6 (.take 7 (.one 8 .done))))))))) ((b6, cel [.int .i64 15, .string eS, .string eS, .int .i64 0, .int .i64 (numOf (numNd l ds f) S d.of).2, .int .i64 0, .bool false, nilS, .slice a9 k c9, nilS] 46) :: []) mixed hsb_ (by decide +kernel) ?_
 refine rz_ ?_
 refine WL.re' (H' := TlH l (.slice (some ⟨bb, oo, none⟩) ds.length p0) pt pq tv2 kv2 ge2 gc2 Ht2 Hk2 ((b6, cel [.int .i64 15, .string eS, .string eS, .int .i64 0, .int .i64 (numOf (numNd l ds f) S d.of).2, .int .i64 0, .bool false, nilS, .slice a9 k c9, nilS] 46) :: (b4, cel [.int .i64 0, .string eS, .string eS, .int .i64 0, .int .i64 0, .int .i64 0, .bool false, nilS, nilS, nilS] 46) :: (Hd ++ F))) sn_ ?_
 refine WL.call rfl Tryz.call11 rfl rfl (by exact (ih (hle.trans (hle1.trans hle2)) hT2 hxn hm2)) ?_
 rintro _ Γ3 _ hle3 ⟨T3, tv3, kv3, Ht3, Hk3, ge3, gc3, rfl, hT3, rfl⟩
 refine rz_ ?_
 (refine WL.lit tab_ok rfl rfl rfl rfl rfl rfl rfl spi_ rfl ?_; intro bq)
 refine rz_ ?_
 refine WL.append tab_ok rfl rfl rfl rfl rfl rfl rfl rfl how tk_ ((Ow.lit (s := 1) (b := bq) (k := 1) (l := [.int .i64 (numOf (numNd l ds f) (numsP (numNd l ds f) (numOf (numNd l ds f) S d.of).1 (d.pars.take k)).1 x).2]) (T := 3) rfl).src tab_ok rfl t1_ (by simp [Value.oneCell'])) (by omega) (by omega) (fun v5 Hs5 how5 => ?_)
 obtain ⟨a5, c5, rfl⟩ := Ow.shape how5
 refine rz_ ?_
 refine hz_ ?_
 rw [hwi]
 exact WE.again ⟨k + 1, .slice a5 (k + 1) c5, _, Hs5, T3, tv3, kv3, Ht3, Hk3, ge3, gc3, rfl, rfl, hlt, hle2.trans hle3, how5, by rw [hxl, numsP_snoc]; exact LisC.append hL (LisC.one rfl), by rw [hxl, numsP_snoc]; exact hT3, rfl⟩ (by omega) sr_ sn_
theorem tq10 (ih : TlC Γ0 l ds vd pt pq f) (hok : OkDs l ds) (hX : Arr Γ0 (DfC Γ0) vd ds) (hle : Γ0.le Γ) (hT : TlR Γ ds S T tv kv Ht Hk ge) (hd : ds[j]? = some d) (hm : missN ds S.seen ≤ f) (hk : d.kind = 10) : Spc Tryz.prog 24 #[.pointer (some ⟨pt, 0, none⟩), .int .i64 ((j : Nat) : Int)] Γ (TlH l vd pt pq tv kv ge gc Ht Hk F) (TyQ l vd pt pq ds F (recT l ds (numNd l ds f) S j 0 d)) := by
 obtain ⟨a0, p0, l0, rfl, hp0, hI0, hL0⟩ := hX.mono hle fun _ _ h => h.mono hle
 have hjl := (List.getElem?_eq_some_iff.1 hd).1
 have hO := hok.each j d hd
 have hof := hO.d0.of1
 obtain ⟨bb, oo, cc, rfl, hD, hc⟩ := elemA hI0 hL0 (fun _ _ h => h.len) (w := 11) (by decide) hd
 have hDC := hD
 obtain ⟨_, _, _, _, rfl, ⟨a1, p1, l1, rfl, hq1, hI1, hL1⟩, ⟨a2, p2, l2, rfl, hq2, hI2, hL2⟩, ⟨a3, p3, l3, rfl, hq3, hI3, hL3⟩, ⟨a4, p4, l4, rfl, hq4, hI4, hL4⟩⟩ := hD
 rw [hk] at hc
 have hcl := hO.d0.meml
 have hw0 := hO.d2.w0
 have hw2 := hO.d2.w2
 refine Spc.body2 Tryz.func24 rfl Tryz.ntmps24 rfl ?_
 refine hz_ ?_
 (refine WL.alloc tab_ok rfl rfl ?_; intro b4)
 refine hz_ ?_
 (refine WL.alloc tab_ok rfl rfl ?_; intro b5)
 refine hz_ ?_
 refine WC.cutM (fun R' Γ' H' => ∃ b9, R' = [(0, .pointer (some ⟨pt, 0, none⟩)), (4, .pointer (some ⟨b4, 0, none⟩)), (5, .pointer (some ⟨b5, 0, none⟩)), (9, .pointer (some ⟨b9, 0, none⟩))] ∧ Γ = Γ' ∧
  H' = TlH l (.slice (some ⟨bb, oo, none⟩) ds.length p0) pt pq tv kv ge gc Ht Hk ((b9, cel [.int .i64 10, .string d.name, .string (kindS d.which), .int .i64 0, .int .i64 (-1), .int .i64 0, .bool d.inc, nilS, nilS, nilS] 46) :: (b5, cel [.int .i64 10, .string d.name, .int .i64 d.which, .int .i64 d.size, .int .i64 d.of, .slice a1 d.cnts.length p1, .bool d.upper, .bool d.inc, .slice a2 d.mems.length p2, .slice a3 d.pars.length p3, .slice a4 d.cons.length p4] 49) :: (b4, cel [.int .i64 0, .string eS, .string eS, .int .i64 0, .int .i64 0, .int .i64 0, .bool false, nilS, nilS, nilS] 46) :: F)) ?_ ?_
 ·have hwh : d.which = 0 ∨ d.which = 1 ∨ d.which = 2 := by omega
  rcases hwh with hw | hw | hw
  ·rw [hw]
   refine WC.draw 13 (.take 0 (.take 1 (.take 2 (.take 3 (.take 5 (.take 6 (.take 9 (.take 10 (.two 4 12 (.take 7 (.two 8 12 (.take 11 (.one 12 (.one 13 .done))) (.one 8 (.take 11 (.one 13 .done))))) (.one 4 (.take 7 (.one 8 (.take 11 (.one 13 .done)))))))))))))) ((b5, cel [.int .i64 10, .string d.name, .int .i64 0, .int .i64 d.size, .int .i64 d.of, .slice a1 d.cnts.length p1, .bool d.upper, .bool d.inc, .slice a2 d.mems.length p2, .slice a3 d.pars.length p3, .slice a4 d.cons.length p4] 49) :: []) mixed hsb_ (by decide +kernel) ?_
   repeat' (first | (refine WD.g ?_; first | refine WD.one rfl ?_ | refine WD.done ?_ | (refine WD.gTake ?_; first | (refine WD.run tab_ok ?_ rfl rfl ?_; (focus (exact np_))) | (refine WD.at_ rfl ?_; (first | (refine WT.gLoad ?_; first | (apply WT.load; exact np_; exact rfl; exact rfl; exact hld_) | (apply WT.loadG; exact np_; exact rfl; exact rfl; exact rfl; exact hld_)) | (refine WT.gIdx ?_; first | (refine WT.idx tab_ok ?_ rfl rfl rfl rfl rfl ?_ ?_ ?_; (focus (exact np_)); (focus omega); (focus omega)) | (refine WT.idxG tab_ok ?_ rfl rfl rfl rfl rfl rfl ?_ ?_ ?_; (focus (exact np_)); (focus omega); (focus omega))) | (refine WT.gSlice ?_; refine WT.slLo tab_ok ?_ rfl rfl rfl rfl rfl ?_ ?_ ?_ ?_; (focus (exact np_)); (focus omega); (focus omega); (focus omega)) | (refine WT.gBuild ?_; refine WT.build tab_ok np_ rfl rfl spi_ ?_) | (refine WT.pure tab_ok ?_ rfl rfl ?_; (focus (exact np_))) | (refine WT.pureG tab_ok ?_ rfl rfl rfl ?_; (focus (exact np_))) | (refine WT.noG ?_ rfl rfl rfl ?_; (focus (exact np_))))))) | (refine WL.g ?_; first | refine WL.nil ?_ | refine WL.run tab_ok rfl rfl ?_ | (refine WL.gLoad ?_; first | refine WL.ld tab_ok rfl rfl rfl pk_ rfl rfl ?_ | refine WL.ldA tab_ok rfl rfl rfl pk_ cut_ rfl ?_ | refine WL.ldI tab_ok rfl rfl rfl (by assumption) rfl ?_ | refine WL.ldR tab_ok rfl rfl rfl hrd_ rfl ?_ | refine WL.ldAI tab_ok rfl rfl rfl (by assumption) rfl rfl ?_) | (refine WL.gStore ?_; refine WL.st tab_ok rfl rfl rfl pk_ spl_ rfl rfl ?_) | (refine WL.gIdx ?_; refine WL.idx tab_ok rfl rfl rfl rfl (by omega) (by omega) rfl ?_) | (refine WL.gBuild ?_; refine WL.build tab_ok rfl spi_ rfl ?_) | (refine WL.gSlice ?_; first | refine WL.slLo tab_ok rfl rfl rfl rfl (by omega) (by omega) (by omega) rfl ?_ | refine WL.slHi tab_ok rfl rfl rfl rfl (by omega) (by omega) rfl ?_ | refine WL.slLH tab_ok rfl rfl rfl rfl rfl (by omega) (by omega) (by omega) rfl ?_) | (refine WL.gBin ?_; first | refine WL.pure tab_ok (evalP_shl rfl rfl (by omega)) rfl ?_ | refine WL.pure tab_ok (evalP_shr rfl rfl (by omega)) rfl ?_) | refine WL.pure tab_ok rfl rfl ?_ | (refine WL.gGuard ?_; first | refine WL.yes rfl rfl rfl ?_ | refine WL.no rfl rfl rfl rfl rfl ?_ | refine WL.noU rfl rfl rfl rfl ?_)) | (refine WE.g ?_; first | refine WE.then_ ?_ | refine WE.thenX rfl ?_ | refine WE.block_n ?_ | refine WE.block_x ?_ | refine WE.block_y rfl ?_ | refine WE.block_r ?_ | apply WE.drawnL | (apply WE.drawn; exact (by first | exact Env.le.rfl' _ | assumption); exact hsb_) | refine WE.ng_n ?_ | refine WE.ng_r ?_ | refine WE.ng_x ?_ | refine WE.np_n ?_ | refine WE.np_r ?_ | refine WE.np_x ?_) | refine WD.two rfl rfl ?_ ?_ | (refine WL.lit tab_ok rfl rfl rfl rfl rfl rfl rfl spi_ rfl ?_; intro bq) | (refine WL.alloc tab_ok rfl rfl ?_; intro b9))
   all_goals refine hz_ ?_
   all_goals exact WE.mid ⟨b9, rfl, rfl, rfl⟩ sr_ sn_
  ·rw [hw]
   refine WC.draw 13 (.take 0 (.take 1 (.take 2 (.take 3 (.take 5 (.take 6 (.take 9 (.take 10 (.two 4 12 (.take 7 (.two 8 12 (.take 11 (.one 12 (.one 13 .done))) (.one 8 (.take 11 (.one 13 .done))))) (.one 4 (.take 7 (.one 8 (.take 11 (.one 13 .done)))))))))))))) ((b5, cel [.int .i64 10, .string d.name, .int .i64 1, .int .i64 d.size, .int .i64 d.of, .slice a1 d.cnts.length p1, .bool d.upper, .bool d.inc, .slice a2 d.mems.length p2, .slice a3 d.pars.length p3, .slice a4 d.cons.length p4] 49) :: []) mixed hsb_ (by decide +kernel) ?_
   repeat' (first | (refine WD.g ?_; first | refine WD.one rfl ?_ | refine WD.done ?_ | (refine WD.gTake ?_; first | (refine WD.run tab_ok ?_ rfl rfl ?_; (focus (exact np_))) | (refine WD.at_ rfl ?_; (first | (refine WT.gLoad ?_; first | (apply WT.load; exact np_; exact rfl; exact rfl; exact hld_) | (apply WT.loadG; exact np_; exact rfl; exact rfl; exact rfl; exact hld_)) | (refine WT.gIdx ?_; first | (refine WT.idx tab_ok ?_ rfl rfl rfl rfl rfl ?_ ?_ ?_; (focus (exact np_)); (focus omega); (focus omega)) | (refine WT.idxG tab_ok ?_ rfl rfl rfl rfl rfl rfl ?_ ?_ ?_; (focus (exact np_)); (focus omega); (focus omega))) | (refine WT.gSlice ?_; refine WT.slLo tab_ok ?_ rfl rfl rfl rfl rfl ?_ ?_ ?_ ?_; (focus (exact np_)); (focus omega); (focus omega); (focus omega)) | (refine WT.gBuild ?_; refine WT.build tab_ok np_ rfl rfl spi_ ?_) | (refine WT.pure tab_ok ?_ rfl rfl ?_; (focus (exact np_))) | (refine WT.pureG tab_ok ?_ rfl rfl rfl ?_; (focus (exact np_))) | (refine WT.noG ?_ rfl rfl rfl ?_; (focus (exact np_))))))) | (refine WL.g ?_; first | refine WL.nil ?_ | refine WL.run tab_ok rfl rfl ?_ | (refine WL.gLoad ?_; first | refine WL.ld tab_ok rfl rfl rfl pk_ rfl rfl ?_ | refine WL.ldA tab_ok rfl rfl rfl pk_ cut_ rfl ?_ | refine WL.ldI tab_ok rfl rfl rfl (by assumption) rfl ?_ | refine WL.ldR tab_ok rfl rfl rfl hrd_ rfl ?_ | refine WL.ldAI tab_ok rfl rfl rfl (by assumption) rfl rfl ?_) | (refine WL.gStore ?_; refine WL.st tab_ok rfl rfl rfl pk_ spl_ rfl rfl ?_) | (refine WL.gIdx ?_; refine WL.idx tab_ok rfl rfl rfl rfl (by omega) (by omega) rfl ?_) | (refine WL.gBuild ?_; refine WL.build tab_ok rfl spi_ rfl ?_) | (refine WL.gSlice ?_; first | refine WL.slLo tab_ok rfl rfl rfl rfl (by omega) (by omega) (by omega) rfl ?_ | refine WL.slHi tab_ok rfl rfl rfl rfl (by omega) (by omega) rfl ?_ | refine WL.slLH tab_ok rfl rfl rfl rfl rfl (by omega) (by omega) (by omega) rfl ?_) | (refine WL.gBin ?_; first | refine WL.pure tab_ok (evalP_shl rfl rfl (by omega)) rfl ?_ | refine WL.pure tab_ok (evalP_shr rfl rfl (by omega)) rfl ?_) | refine WL.pure tab_ok rfl rfl ?_ | (refine WL.gGuard ?_; first | refine WL.yes rfl rfl rfl ?_ | refine WL.no rfl rfl rfl rfl rfl ?_ | refine WL.noU rfl rfl rfl rfl ?_)) | (refine WE.g ?_; first | refine WE.then_ ?_ | refine WE.thenX rfl ?_ | refine WE.block_n ?_ | refine WE.block_x ?_ | refine WE.block_y rfl ?_ | refine WE.block_r ?_ | apply WE.drawnL | (apply WE.drawn; exact (by first | exact Env.le.rfl' _ | assumption); exact hsb_) | refine WE.ng_n ?_ | refine WE.ng_r ?_ | refine WE.ng_x ?_ | refine WE.np_n ?_ | refine WE.np_r ?_ | refine WE.np_x ?_) | refine WD.two rfl rfl ?_ ?_ | (refine WL.lit tab_ok rfl rfl rfl rfl rfl rfl rfl spi_ rfl ?_; intro bq) | (refine WL.alloc tab_ok rfl rfl ?_; intro b9))
   all_goals refine hz_ ?_
   all_goals exact WE.mid ⟨b9, rfl, rfl, rfl⟩ sr_ sn_
  ·rw [hw]
   refine WC.draw 13 (.take 0 (.take 1 (.take 2 (.take 3 (.take 5 (.take 6 (.take 9 (.take 10 (.two 4 12 (.take 7 (.two 8 12 (.take 11 (.one 12 (.one 13 .done))) (.one 8 (.take 11 (.one 13 .done))))) (.one 4 (.take 7 (.one 8 (.take 11 (.one 13 .done)))))))))))))) ((b5, cel [.int .i64 10, .string d.name, .int .i64 2, .int .i64 d.size, .int .i64 d.of, .slice a1 d.cnts.length p1, .bool d.upper, .bool d.inc, .slice a2 d.mems.length p2, .slice a3 d.pars.length p3, .slice a4 d.cons.length p4] 49) :: []) mixed hsb_ (by decide +kernel) ?_
   repeat' (first | (refine WD.g ?_; first | refine WD.one rfl ?_ | refine WD.done ?_ | (refine WD.gTake ?_; first | (refine WD.run tab_ok ?_ rfl rfl ?_; (focus (exact np_))) | (refine WD.at_ rfl ?_; (first | (refine WT.gLoad ?_; first | (apply WT.load; exact np_; exact rfl; exact rfl; exact hld_) | (apply WT.loadG; exact np_; exact rfl; exact rfl; exact rfl; exact hld_)) | (refine WT.gIdx ?_; first | (refine WT.idx tab_ok ?_ rfl rfl rfl rfl rfl ?_ ?_ ?_; (focus (exact np_)); (focus omega); (focus omega)) | (refine WT.idxG tab_ok ?_ rfl rfl rfl rfl rfl rfl ?_ ?_ ?_; (focus (exact np_)); (focus omega); (focus omega))) | (refine WT.gSlice ?_; refine WT.slLo tab_ok ?_ rfl rfl rfl rfl rfl ?_ ?_ ?_ ?_; (focus (exact np_)); (focus omega); (focus omega); (focus omega)) | (refine WT.gBuild ?_; refine WT.build tab_ok np_ rfl rfl spi_ ?_) | (refine WT.pure tab_ok ?_ rfl rfl ?_; (focus (exact np_))) | (refine WT.pureG tab_ok ?_ rfl rfl rfl ?_; (focus (exact np_))) | (refine WT.noG ?_ rfl rfl rfl ?_; (focus (exact np_))))))) | (refine WL.g ?_; first | refine WL.nil ?_ | refine WL.run tab_ok rfl rfl ?_ | (refine WL.gLoad ?_; first | refine WL.ld tab_ok rfl rfl rfl pk_ rfl rfl ?_ | refine WL.ldA tab_ok rfl rfl rfl pk_ cut_ rfl ?_ | refine WL.ldI tab_ok rfl rfl rfl (by assumption) rfl ?_ | refine WL.ldR tab_ok rfl rfl rfl hrd_ rfl ?_ | refine WL.ldAI tab_ok rfl rfl rfl (by assumption) rfl rfl ?_) | (refine WL.gStore ?_; refine WL.st tab_ok rfl rfl rfl pk_ spl_ rfl rfl ?_) | (refine WL.gIdx ?_; refine WL.idx tab_ok rfl rfl rfl rfl (by omega) (by omega) rfl ?_) | (refine WL.gBuild ?_; refine WL.build tab_ok rfl spi_ rfl ?_) | (refine WL.gSlice ?_; first | refine WL.slLo tab_ok rfl rfl rfl rfl (by omega) (by omega) (by omega) rfl ?_ | refine WL.slHi tab_ok rfl rfl rfl rfl (by omega) (by omega) rfl ?_ | refine WL.slLH tab_ok rfl rfl rfl rfl rfl (by omega) (by omega) (by omega) rfl ?_) | (refine WL.gBin ?_; first | refine WL.pure tab_ok (evalP_shl rfl rfl (by omega)) rfl ?_ | refine WL.pure tab_ok (evalP_shr rfl rfl (by omega)) rfl ?_) | refine WL.pure tab_ok rfl rfl ?_ | (refine WL.gGuard ?_; first | refine WL.yes rfl rfl rfl ?_ | refine WL.no rfl rfl rfl rfl rfl ?_ | refine WL.noU rfl rfl rfl rfl ?_)) | (refine WE.g ?_; first | refine WE.then_ ?_ | refine WE.thenX rfl ?_ | refine WE.block_n ?_ | refine WE.block_x ?_ | refine WE.block_y rfl ?_ | refine WE.block_r ?_ | apply WE.drawnL | (apply WE.drawn; exact (by first | exact Env.le.rfl' _ | assumption); exact hsb_) | refine WE.ng_n ?_ | refine WE.ng_r ?_ | refine WE.ng_x ?_ | refine WE.np_n ?_ | refine WE.np_r ?_ | refine WE.np_x ?_) | refine WD.two rfl rfl ?_ ?_ | (refine WL.lit tab_ok rfl rfl rfl rfl rfl rfl rfl spi_ rfl ?_; intro bq) | (refine WL.alloc tab_ok rfl rfl ?_; intro b9))
   all_goals refine hz_ ?_
   all_goals exact WE.mid ⟨b9, rfl, rfl, rfl⟩ sr_ sn_
 rintro R' _ H' ⟨b9, rfl, rfl, rfl⟩
 refine hz_ ?_
 refine WC.loopE (fun m R' Γ' H' => ∃ k vc cells Hd T' tv' kv' Ht' Hk' ge' gc', R' = [(0, .pointer (some ⟨pt, 0, none⟩)), (4, .pointer (some ⟨b4, 0, none⟩)), (9, .pointer (some ⟨b9, 0, none⟩)), (117, .slice a2 d.mems.length p2), (118, .int .i64 (d.mems.length : Int)), (119, .int .i64 ((k : Nat) : Int))] ∧ m = d.mems.length - k ∧ k ≤ d.mems.length ∧ Γ.le Γ' ∧
   Ow 3 vc k cells Hd ∧ LisC MemC (numsM (numNd l ds f) S (d.mems.take k)).2 cells ∧ TlR Γ' ds (numsM (numNd l ds f) S (d.mems.take k)).1 T' tv' kv' Ht' Hk' ge' ∧
   H' = TlH l (.slice (some ⟨bb, oo, none⟩) ds.length p0) pt pq tv' kv' ge' gc' Ht' Hk' ((b9, cel [.int .i64 10, .string d.name, .string (kindS d.which), .int .i64 0, .int .i64 (-1), .int .i64 0, .bool d.inc, vc, nilS, nilS] 46) :: (b4, cel [.int .i64 0, .string eS, .string eS, .int .i64 0, .int .i64 0, .int .i64 0, .bool false, nilS, nilS, nilS] 46) :: (Hd ++ F)))
  ⟨0, nilS, [], [], T, tv, kv, Ht, Hk, ge, gc, rfl, rfl, Nat.zero_le _, Env.le.rfl' _, Ow.nil, rfl, hT, rfl⟩ sr_ sn_ ?_
 rintro m R' Γ2 H' ⟨k, vc, cells, Hd, T2, tv2, kv2, Ht2, Hk2, ge2, gc2, rfl, rfl, hkl, hle2, how, hL, hT2, rfl⟩
 obtain ⟨a9, c9, rfl⟩ := Ow.shape how
 rcases Nat.lt_or_ge k d.mems.length with hlt | hge
 case inr =>
  have ek : k = d.mems.length := by omega
  subst ek
  rw [List.take_length] at hL hT2
  refine hz_ ?_
  refine WC.condF rfl (decide_eq_false (by omega)) ?_
  refine hz_ ?_
  refine WE.keep how tk_ (fun Γ4 hle4 him => ?_)
  refine WE.drop (b := b9) pk_ ?_
  unfold recT
  rw [if_neg (by omega), if_neg (by omega), if_neg (by omega), if_neg (by omega), if_neg (by omega), if_pos hk]
  have hpl : (numsM (numNd l ds f) S d.mems).2.length = d.mems.length := numsM_len _ _ _
  have him' : Im Γ4 (.slice a9 d.mems.length c9) (numsM (numNd l ds f) S d.mems).2.length cells := by rw [hpl]; exact him
  have hAr := Im.arr him' hL
  exact end_c tab_ok rfl rfl rfl rfl pk_ rfl (hle2.trans hle4) ⟨_, T2, tv2, kv2, Ht2, Hk2, ge2, gc2, rfl, ⟨.slice a9 d.mems.length c9, nilS, nilS, rfl, hAr, arrN, arrN⟩, hT2.mono hle4, rfl⟩
 obtain ⟨x, hx⟩ : ∃ x, d.mems[k]? = some x := ⟨_, List.getElem?_eq_getElem hlt⟩
 have hxl : d.mems.take (k + 1) = d.mems.take k ++ [x] := by rw [List.take_add_one, hx]; rfl
 obtain ⟨bx, ox, cx, rfl, hPx, hcx⟩ := elemA hI2 hL2 (fun _ _ h => MemC.len h) (w := 3) (by decide) hx
 cases hPx
 have hcx2 : cellsAt (Γ2.cell bx) (ox + ((k : Nat) : Int).toNat * 3) [.string x.name, .int .i64 x.off, .int .i64 x.of] := ⟨hle2.cell hcx.1, hle2.cell hcx.2.1, hle2.cell hcx.2.2.1, trivial⟩
 have hxn : x.of < ds.length := (hO.mem k x hx).of1
 have hwi : IntKind.i64.wrap (((k : Nat) : Int) + 1) = ((k + 1 : Nat) : Int) := by rw [w_i64 (by omega) (by omega)]; omega
 have hm2 : missN ds (numsM (numNd l ds f) S (d.mems.take k)).1.seen ≤ f := Nat.le_trans (missN_le (fun y hy => numsM_sub (numNd_sub f) _ _ y hy)) hm
 refine hz_ ?_
 refine WC.condT rfl tr_ ?_
 refine hz_ ?_
 (refine WL.alloc tab_ok rfl rfl ?_; intro b11)
 refine hz_ ?_
 refine WC.draw 14 (.take 0 (.take 1 (.take 2 (.take 3 (.take 4 (.take 5 (.take 6 (.take 7 (.take 8 (.one 9 (.take 10 (.one 11 (.one 12 (.take 13 (.one 14 .done))))))))))))))) ((b11, cel [.string x.name, .int .i64 x.off, .int .i64 x.of] 93) :: (b9, cel [.int .i64 10, .string d.name, .string (kindS d.which), .int .i64 0, .int .i64 (-1), .int .i64 0, .bool d.inc, .slice a9 k c9, nilS, nilS] 46) :: []) mixed hsb_ (by decide +kernel) ?_
 refine rz_ ?_
 refine WL.re' (H' := TlH l (.slice (some ⟨bb, oo, none⟩) ds.length p0) pt pq tv2 kv2 ge2 gc2 Ht2 Hk2 ((b11, cel [.string x.name, .int .i64 x.off, .int .i64 x.of] 93) :: (b9, cel [.int .i64 10, .string d.name, .string (kindS d.which), .int .i64 0, .int .i64 (-1), .int .i64 0, .bool d.inc, .slice a9 k c9, nilS, nilS] 46) :: (b4, cel [.int .i64 0, .string eS, .string eS, .int .i64 0, .int .i64 0, .int .i64 0, .bool false, nilS, nilS, nilS] 46) :: (Hd ++ F))) sn_ ?_
 refine WL.call rfl Tryz.call11 rfl rfl (by exact (ih (hle.trans hle2) hT2 hxn hm2)) ?_
 rintro _ Γ3 _ hle3 ⟨T3, tv3, kv3, Ht3, Hk3, ge3, gc3, rfl, hT3, rfl⟩
 refine rz_ ?_
 (refine WL.lit tab_ok rfl rfl rfl rfl rfl rfl rfl spi_ rfl ?_; intro bq)
 refine rz_ ?_
 refine WL.append tab_ok rfl rfl rfl rfl rfl rfl rfl rfl how tk_ ((Ow.lit (s := 3) (b := bq) (k := 1) (l := [.string x.name, .int .i64 x.off, .int .i64 (numOf (numNd l ds f) (numsM (numNd l ds f) S (d.mems.take k)).1 x.of).2]) (T := 93) rfl).src tab_ok rfl t1_ (by simp [Value.oneCell'])) (by omega) (by omega) (fun v5 Hs5 how5 => ?_)
 obtain ⟨a5, c5, rfl⟩ := Ow.shape how5
 refine rz_ ?_
 refine hz_ ?_
 rw [hwi]
 exact WE.again ⟨k + 1, .slice a5 (k + 1) c5, _, Hs5, T3, tv3, kv3, Ht3, Hk3, ge3, gc3, rfl, rfl, hlt, hle2.trans hle3, how5, by rw [hxl, numsM_snoc]; exact LisC.append hL (LisC.one rfl), by rw [hxl, numsM_snoc]; exact hT3, rfl⟩ (by omega) sr_ sn_
theorem tqB (ih : TlC Γ0 l ds vd pt pq f) (hok : OkDs l ds) (hX : Arr Γ0 (DfC Γ0) vd ds) (hle : Γ0.le Γ) (hT : TlR Γ ds S T tv kv Ht Hk ge) (hd : ds[j]? = some d) (hm : missN ds S.seen ≤ f) (h9 : d.kind ≠ 9) (h12 : d.kind ≠ 12) (h13 : d.kind ≠ 13) (h11 : d.kind ≠ 11) (h14 : d.kind ≠ 14) (h15 : d.kind ≠ 15) (h10 : d.kind ≠ 10) : Spc Tryz.prog 24 #[.pointer (some ⟨pt, 0, none⟩), .int .i64 ((j : Nat) : Int)] Γ (TlH l vd pt pq tv kv ge gc Ht Hk F) (TyQ l vd pt pq ds F (recT l ds (numNd l ds f) S j 0 d)) := by
 obtain ⟨a0, p0, l0, rfl, hp0, hI0, hL0⟩ := hX.mono hle fun _ _ h => h.mono hle
 have hjl := (List.getElem?_eq_some_iff.1 hd).1
 have hO := hok.each j d hd
 have hof := hO.d0.of1
 obtain ⟨bb, oo, cc, rfl, hD, hc⟩ := elemA hI0 hL0 (fun _ _ h => h.len) (w := 11) (by decide) hd
 have hDC := hD
 obtain ⟨_, _, _, _, rfl, ⟨a1, p1, l1, rfl, hq1, hI1, hL1⟩, ⟨a2, p2, l2, rfl, hq2, hI2, hL2⟩, ⟨a3, p3, l3, rfl, hq3, hI3, hL3⟩, ⟨a4, p4, l4, rfl, hq4, hI4, hL4⟩⟩ := hD
 refine Spc.body2 Tryz.func24 rfl Tryz.ntmps24 rfl ?_
 refine hz_ ?_
 (refine WL.alloc tab_ok rfl rfl ?_; intro b4)
 refine hz_ ?_
 (refine WL.alloc tab_ok rfl rfl ?_; intro b5)
 refine hz_ ?_
 rw [show (d.kind == 9) = false from beq_eq_false_iff_ne.2 h9]
 refine hz_ ?_
 rw [show (d.kind == 12) = false from beq_eq_false_iff_ne.2 h12]
 refine hz_ ?_
 rw [show (d.kind == 13) = false from beq_eq_false_iff_ne.2 h13]
 refine hz_ ?_
 rw [show (d.kind == 11) = false from beq_eq_false_iff_ne.2 h11]
 refine hz_ ?_
 rw [show (d.kind == 14) = false from beq_eq_false_iff_ne.2 h14]
 refine hz_ ?_
 rw [show (d.kind == 15) = false from beq_eq_false_iff_ne.2 h15]
 refine hz_ ?_
 rw [show (d.kind == 10) = false from beq_eq_false_iff_ne.2 h10]
 refine hz_ ?_
 refine WE.drop (b := b5) pk_ ?_
 unfold recT
 rw [if_neg h9, if_neg h12, if_neg h13, if_neg h11, if_neg h15, if_neg h10, if_neg h14]
 by_cases h16 : d.kind = 16
 ·rw [if_pos h16, h16]
  exact end_c tab_ok rfl rfl rfl rfl pk_ rfl (Env.le.rfl' _) ⟨_, T, tv, kv, Ht, Hk, ge, gc, rfl, ⟨nilS, nilS, nilS, rfl, arrN, arrN, arrN⟩, hT, rfl⟩
 ·rw [if_neg h16]
  exact end_c tab_ok rfl rfl rfl rfl pk_ rfl (Env.le.rfl' _) ⟨_, T, tv, kv, Ht, Hk, ge, gc, rfl, ⟨nilS, nilS, nilS, rfl, arrN, arrN, arrN⟩, hT, rfl⟩
end
section
variable {Γ Γ0 : Env} {l : Lay} {ds : List Df} {vd tv kv : Value} {pt pq f gc j : Nat} {F Ht Hk : List Blk} {S : TSt} {T : TT} {ge : List MapEntry} {d : Df}
theorem ixOf_app (x y : Nd) : ∀ (L : List Nd) (i : Nat), ixOf x (L ++ [y]) i = match ixOf x L i with | some k => some k | none => if y = x then some (i + L.length) else none
 | [], i => by simp [ixOf]
 | z :: L, i => by
  rw [List.cons_append, ixOf, ixOf]
  by_cases e : z = x
  ·rw [if_pos e, if_pos e]
  ·rw [if_neg e, if_neg e, ixOf_app x y L (i + 1), List.length_cons, show i + 1 + L.length = i + (L.length + 1) by omega]
theorem TlR.room {tv' kv' : Value} {Ht' Hk' : List Blk} (h : TlR Γ ds S T tv kv Ht Hk ge) {x : Nd} (hn : x ∉ S.seen) (hx1 : x.1 < ds.length) (hx2 : x.2 < 5) (ht : ToldR Γ (T ++ [(Ty.nil, false)]) tv' Ht') (hk : KnowR (T ++ [(Ty.nil, false)]) kv' Hk')
  (hc : ∀ q, x.2 = q + 1 → (x.1, q) ∈ S.seen) {ge' : List MapEntry} (hke : keysOf .i64 ge') (hm : ∀ j : Nat, (mfind (j : Int) ge' 0).map Prod.snd = (ixOf (j, 0) (S.seen ++ [x]) 0).map fun k => Value.int .i64 (k : Int)) :
  TlR Γ ds ⟨S.seen ++ [x], S.told ++ [Ty.nil]⟩ (T ++ [(Ty.nil, false)]) tv' kv' Ht' Hk' ge' := by
 have hms := missN_snoc (ds := ds) hn hx1 hx2
 have hl := h.len
 have hlT := h.lenT
 have hf := h.few
 refine ⟨by simp only [List.length_append, List.length_singleton]; omega, by simp only [List.length_append, List.length_singleton]; omega, fun i x y h1 h2 => ?_, hke, hm, fun j q hj => ?_, ht, hk, by simp only [List.length_append, List.length_singleton]; omega⟩
 ·rcases Nat.lt_or_ge i S.told.length with hlt | hge
  ·rw [List.getElem?_append_left hlt] at h1
   rw [List.getElem?_append_left (by omega)] at h2
   exact h.rel i x y h1 h2
  ·have hi := (List.getElem?_eq_some_iff.1 h1).1
   simp only [List.length_append, List.length_singleton] at hi
   have ei : i = S.told.length := by omega
   subst ei
   rw [List.getElem?_append_right (Nat.le_refl _), Nat.sub_self] at h1
   rw [← hlT, List.getElem?_append_right (Nat.le_refl _), Nat.sub_self] at h2
   injection h1 with h1; injection h2 with h2
   subst h1 h2
   exact ⟨rfl, fun h => by cases h⟩
 ·rcases List.mem_append.1 hj with hj | hj
  ·exact List.mem_append_left _ (h.clo j q hj)
  ·have hj' := List.mem_singleton.1 hj
   subst hj'
   exact List.mem_append_left _ (hc q rfl)
theorem TlR.fin {tv' kv' : Value} {Ht' Hk' : List Blk} (h : TlR Γ ds S T tv kv Ht Hk ge) {i : Nat} {x y : Ty} {kn : Bool} (hi : i < T.length) (hr : RelT x (y, kn)) (ht : ToldR Γ (T.set i (y, kn)) tv' Ht') (hk : KnowR (T.set i (y, kn)) kv' Hk') :
  TlR Γ ds ⟨S.seen, S.told.set i x⟩ (T.set i (y, kn)) tv' kv' Ht' Hk' ge := by
 have hl := h.len
 have hlT := h.lenT
 refine ⟨by rw [List.length_set]; exact hl, by rw [List.length_set, List.length_set]; exact hlT, fun k a b h1 h2 => ?_, h.keys, h.map, h.clo, ht, hk, h.few⟩
 by_cases e : i = k
 ·subst e
  simp only at h1
  rw [List.getElem?_set_self (by omega)] at h1
  rw [List.getElem?_set_self hi] at h2
  injection h1 with h1; injection h2 with h2
  subst h1 h2
  exact hr
 ·simp only at h1
  rw [List.getElem?_set_ne e] at h1
  rw [List.getElem?_set_ne e] at h2
  exact h.rel k a b h1 h2
theorem toldPut {a : Option Addr} {c i : Nat} {y : Ty} {kn : Bool} {cy cells : List Value} {Hs : List Blk} (hi : i < T.length) (hy : TyC Γ y cy) (hL : LisC (TyC Γ) (T.map Prod.fst) cells) (how : Ow 10 (.slice a T.length c) T.length (setAll (i * 10) cy cells) Hs) :
  ToldR Γ (T.set i (y, kn)) (.slice a T.length c) Hs := by
 refine ⟨_, by rw [List.length_set]; exact how, ?_⟩
 rw [List.map_set]
 exact LisC.setAll (fun _ _ h => TyC.len h) hL (by rw [List.length_map]; exact hi) hy
theorem knowPut {a : Option Addr} {c i : Nat} {y : Ty} {kn : Bool} {cells : List Value} {Hs : List Blk} (hi : i < T.length) (hL : LisC BolC (T.map Prod.snd) cells) (how : Ow 1 (.slice a T.length c) T.length (setAll (i * 1) [.bool kn] cells) Hs) :
  KnowR (T.set i (y, kn)) (.slice a T.length c) Hs := by
 refine ⟨_, by rw [List.length_set]; exact how, ?_⟩
 rw [List.map_set]
 exact LisC.setAll (fun _ _ h => BolC.len h) hL (by rw [List.length_map]; exact hi) rfl
theorem tlA_step (ihA : ∀ m, m + 1 = f → TlA Γ0 l ds vd pt pq m) (ihC : ∀ m, m + 1 = f → TlC Γ0 l ds vd pt pq m) (hC : TlC Γ0 l ds vd pt pq f) (hok : OkDs l ds) (hX : Arr Γ0 (DfC Γ0) vd ds) : TlA Γ0 l ds vd pt pq f := by
 intro Γ F S T tv kv Ht Hk ge gc j q d c hle hT hd hk hq hs0 hs1 hD hm
 have hX1 := hX.mono hle fun _ _ h => h.mono hle
 obtain ⟨a0, p0, l0, rfl, hp0, hI0, hL0⟩ := hX1
 have hjl := (List.getElem?_eq_some_iff.1 hd).1
 have hO := hok.each j d hd
 have hof := hO.d0.of1
 have hcl := hO.d0.cntl
 have hah := hO.d1.ahead
 have hDC := hD
 obtain ⟨_, _, _, _, rfl, ⟨a1, p1, l1, rfl, hq1, hI1, hL1⟩, ⟨a2, p2, l2, rfl, hq2, hI2, hL2⟩, ⟨a3, p3, l3, rfl, hq3, hI3, hL3⟩, ⟨a4, p4, l4, rfl, hq4, hI4, hL4⟩⟩ := hD
 refine Spc.body3 Tryz.func36 rfl Tryz.ntmps36 rfl ?_
 refine WC.seq ?_
 refine WC.region ?_
 (refine WL.box rfl spi_ rfl ?_; intro b4)
 refine hz_ ?_
 unfold arrT
 by_cases hqe : q + 1 = d.cnts.length
 ·rw [show (((q + 1 : Nat) : Int) == (d.cnts.length : Int)) = true from beq_iff_eq.2 (by omega), if_neg (by omega)]
  refine hz_ ?_
  refine WL.re' (H' := TlH l (.slice a0 ds.length p0) pt pq tv kv ge gc Ht Hk _) sn_ ?_
  refine WL.call rfl Tryz.call11 rfl rfl (by exact (hC hle hT hof hm)) ?_
  rintro _ Γ1 _ hle1 ⟨T1, tv1, kv1, Ht1, Hk1, ge1, gc1, rfl, hT1, rfl⟩
  refine hz_ ?_
  refine WE.drop (b := b4) pk_ ?_
  exact end_1 rfl rfl hle1 ⟨T1, tv1, kv1, Ht1, Hk1, ge1, gc1, rfl, hT1, rfl⟩
 rw [show (((q + 1 : Nat) : Int) == (d.cnts.length : Int)) = false from beq_eq_false_iff_ne.2 (by omega), if_pos (by omega)]
 have hqx : q + 1 < 5 := by omega
 have hms := missN_snoc (ds := ds) hs1 hjl hqx
 obtain ⟨m, rfl⟩ : ∃ m, f = m + 1 := ⟨f - 1, by omega⟩
 have hix : ixOf (j, q + 1) S.seen 0 = none := by
  cases e : ixOf (j, q + 1) S.seen 0 with
  | none => rfl
  | some k =>
   obtain ⟨i, -, h2⟩ := ixOf_some e
   exact absurd (List.mem_of_getElem? h2) hs1
 have e : numNd l ds (m + 1) S (j, q + 1) = (⟨(recT l ds (numNd l ds m) ⟨S.seen ++ [(j, q + 1)], S.told ++ [Ty.nil]⟩ j (q + 1) d).1.seen, (recT l ds (numNd l ds m) ⟨S.seen ++ [(j, q + 1)], S.told ++ [Ty.nil]⟩ j (q + 1) d).1.told.set S.seen.length (recT l ds (numNd l ds m) ⟨S.seen ++ [(j, q + 1)], S.told ++ [Ty.nil]⟩ j (q + 1) d).2⟩, (S.seen.length : Int)) := by
  rw [numNd, hix]
  simp only
  rw [hd]
 rw [e]
 have hTl := hT.lenT
 have hTn := hT.len
 have hTf := hT.few
 refine hz_ ?_
 refine WL.re' (H' := TlH l (.slice a0 ds.length p0) pt pq tv kv ge gc Ht Hk _) sn_ ?_
 refine WL.call rfl Tryz.call23 rfl rfl (by exact (room_ok (by omega) hT.told hT.known)) ?_
 rintro _ _ _ - ⟨rfl, tv1, kv1, Ht1, Hk1, rfl, ht1, hk1, rfl⟩
 have hT1 : TlR Γ ds ⟨S.seen ++ [(j, q + 1)], S.told ++ [Ty.nil]⟩ (T ++ [(Ty.nil, false)]) tv1 kv1 Ht1 Hk1 ge := by
  refine hT.room hs1 hjl hqx ht1 hk1 (fun q' h => ?_) hT.keys (fun i => ?_)
  ·have : q = q' := by simpa using h
   subst this
   exact hs0
  ·rw [hT.map i, ixOf_app]
   cases ixOf (i, 0) S.seen 0 with
   | some k => rfl
   | none => rw [if_neg (by simp)]
 refine hz_ ?_
 obtain ⟨z, hz⟩ : ∃ z, d.cnts[q + 1]? = some z := ⟨_, List.getElem?_eq_getElem (by omega)⟩
 obtain ⟨bz, oz, _, rfl, hzP, hzc⟩ := elemA hI1 hL1 (fun _ _ h => NumC.len h) (w := 1) (by decide) hz
 cases hzP
 have hz0 := hzc.1
 have hgd : d.cnts.getD (q + 1) 0 = z := by rw [List.getD_eq_getElem?_getD, hz]; rfl
 have hwq : IntKind.i64.wrap (((q + 1 : Nat) : Int) + 1) = ((q + 1 + 1 : Nat) : Int) := by rw [w_i64 (by omega) (by omega)]; omega
 have hs3 : (j, q + 1 + 1) ∉ S.seen ++ [(j, q + 1)] := fun h => by
  rcases List.mem_append.1 h with h | h
  ·exact hs1 (hT.clo j (q + 1) h)
  ·have := List.mem_singleton.1 h
   simp at this
 have hs2 : (j, q + 1) ∈ S.seen ++ [(j, q + 1)] := List.mem_append_right _ (List.mem_singleton.2 rfl)
 have hrec : recT l ds (numNd l ds m) ⟨S.seen ++ [(j, q + 1)], S.told ++ [Ty.nil]⟩ j (q + 1) d = ((arrT l ds m ⟨S.seen ++ [(j, q + 1)], S.told ++ [Ty.nil]⟩ j d (q + 1 + 1)).1, ⟨11, eS, eS, szA (szJ l ds d.of) (d.cnts.drop (q + 1)), (arrT l ds m ⟨S.seen ++ [(j, q + 1)], S.told ++ [Ty.nil]⟩ j d (q + 1 + 1)).2, z, false, [], [], []⟩) := by
  unfold recT arrT
  rw [if_neg (by omega), if_neg (by omega), if_neg (by omega), if_pos hk, hgd]
 rw [hrec]
 have hlen1 : S.told.length + 1 ≤ (arrT l ds m ⟨S.seen ++ [(j, q + 1)], S.told ++ [Ty.nil]⟩ j d (q + 1 + 1)).1.told.length := by
  have h1 : (⟨S.seen ++ [(j, q + 1)], S.told ++ [Ty.nil]⟩ : TSt).told.length ≤ (arrT l ds m ⟨S.seen ++ [(j, q + 1)], S.told ++ [Ty.nil]⟩ j d (q + 1 + 1)).1.told.length := by
   unfold arrT
   split
   ·exact numNd_len m _ _
   ·exact numOf_len (numNd_len m) _ _
  simp only [List.length_append, List.length_singleton] at h1
  exact h1
 have hcall := fun F => ihA m rfl (F := F) (gc := gc) (q := q + 1) (d := d) (c := [.int .i64 d.kind, .string d.name, .int .i64 d.which, .int .i64 d.size, .int .i64 d.of, .slice (some ⟨bz, oz, none⟩) d.cnts.length p1, .bool d.upper, .bool d.inc, .slice a2 d.mems.length p2, .slice a3 d.pars.length p3, .slice a4 d.cons.length p4]) hle hT1 hd hk (by omega) hs2 hs3 hDC (by simp only; omega)
 generalize hR1 : arrT l ds m ⟨S.seen ++ [(j, q + 1)], S.told ++ [Ty.nil]⟩ j d (q + 1 + 1) = R1 at hlen1 hcall ⊢
 refine WC.cutM (fun R' Γ' H' => ∃ b8 T2 tv2 kv2 Ht2 Hk2 ge2 gc2, R' = [(0, .pointer (some ⟨pt, 0, none⟩)), (2, .int .i64 ((q + 1 : Nat) : Int)), (4, .pointer (some ⟨b4, 0, none⟩)), (7, .int .i64 (T.length : Int)), (8, .pointer (some ⟨b8, 0, none⟩))] ∧ Γ.le Γ' ∧ TlR Γ' ds R1.1 T2 tv2 kv2 Ht2 Hk2 ge2 ∧
  H' = TlH l (.slice a0 ds.length p0) pt pq tv2 kv2 ge2 gc2 Ht2 Hk2 ((b8, cel [.int .i64 11, .string eS, .string eS, .int .i64 0, .int .i64 R1.2, .int .i64 z, .bool false, nilS, nilS, nilS] 46) :: (b4, cel [.int .i64 d.kind, .string d.name, .int .i64 d.which, .int .i64 d.size, .int .i64 d.of, .slice (some ⟨bz, oz, none⟩) d.cnts.length p1, .bool d.upper, .bool d.inc, .slice a2 d.mems.length p2, .slice a3 d.pars.length p3, .slice a4 d.cons.length p4] 49) :: F)) ?_ ?_
 ·refine WC.draw 12 (.take 0 (.take 1 (.take 2 (.take 3 (.take 4 (.take 5 (.take 6 (.take 7 (.take 8 (.two 9 11 (.take 10 (.one 11 (.one 12 .done))) (.one 9 (.take 10 (.one 12 .done))))))))))))) ((b4, cel [.int .i64 d.kind, .string d.name, .int .i64 d.which, .int .i64 d.size, .int .i64 d.of, .slice (some ⟨bz, oz, none⟩) d.cnts.length p1, .bool d.upper, .bool d.inc, .slice a2 d.mems.length p2, .slice a3 d.pars.length p3, .slice a4 d.cons.length p4] 49) :: []) mixed hsb_ (by decide +kernel) ?_
  repeat' (first | (refine WD.g ?_; first | refine WD.one rfl ?_ | refine WD.done ?_ | (refine WD.gTake ?_; first | (refine WD.run tab_ok ?_ rfl rfl ?_; (focus (exact np_))) | (refine WD.at_ rfl ?_; (first | (refine WT.gLoad ?_; first | (apply WT.load; exact np_; exact rfl; exact rfl; exact hld_) | (apply WT.loadG; exact np_; exact rfl; exact rfl; exact rfl; exact hld_)) | (refine WT.gIdx ?_; first | (refine WT.idx tab_ok ?_ rfl rfl rfl rfl rfl ?_ ?_ ?_; (focus (exact np_)); (focus omega); (focus omega)) | (refine WT.idxG tab_ok ?_ rfl rfl rfl rfl rfl rfl ?_ ?_ ?_; (focus (exact np_)); (focus omega); (focus omega))) | (refine WT.gSlice ?_; refine WT.slLo tab_ok ?_ rfl rfl rfl rfl rfl ?_ ?_ ?_ ?_; (focus (exact np_)); (focus omega); (focus omega); (focus omega)) | (refine WT.gBuild ?_; refine WT.build tab_ok np_ rfl rfl spi_ ?_) | (refine WT.pure tab_ok ?_ rfl rfl ?_; (focus (exact np_))) | (refine WT.pureG tab_ok ?_ rfl rfl rfl ?_; (focus (exact np_))) | (refine WT.noG ?_ rfl rfl rfl ?_; (focus (exact np_))))))) | (refine WL.g ?_; first | refine WL.nil ?_ | refine WL.run tab_ok rfl rfl ?_ | (refine WL.gLoad ?_; first | refine WL.ld tab_ok rfl rfl rfl pk_ rfl rfl ?_ | refine WL.ldA tab_ok rfl rfl rfl pk_ cut_ rfl ?_ | refine WL.ldI tab_ok rfl rfl rfl (by assumption) rfl ?_ | refine WL.ldR tab_ok rfl rfl rfl hrd_ rfl ?_ | refine WL.ldAI tab_ok rfl rfl rfl (by assumption) rfl rfl ?_) | (refine WL.gStore ?_; refine WL.st tab_ok rfl rfl rfl pk_ spl_ rfl rfl ?_) | (refine WL.gIdx ?_; refine WL.idx tab_ok rfl rfl rfl rfl (by omega) (by omega) rfl ?_) | (refine WL.gBuild ?_; refine WL.build tab_ok rfl spi_ rfl ?_) | (refine WL.gSlice ?_; first | refine WL.slLo tab_ok rfl rfl rfl rfl (by omega) (by omega) (by omega) rfl ?_ | refine WL.slHi tab_ok rfl rfl rfl rfl (by omega) (by omega) rfl ?_ | refine WL.slLH tab_ok rfl rfl rfl rfl rfl (by omega) (by omega) (by omega) rfl ?_) | (refine WL.gBin ?_; first | refine WL.pure tab_ok (evalP_shl rfl rfl (by omega)) rfl ?_ | refine WL.pure tab_ok (evalP_shr rfl rfl (by omega)) rfl ?_) | refine WL.pure tab_ok rfl rfl ?_ | (refine WL.gGuard ?_; first | refine WL.yes rfl rfl rfl ?_ | refine WL.no rfl rfl rfl rfl rfl ?_ | refine WL.noU rfl rfl rfl rfl ?_)) | (refine WE.g ?_; first | refine WE.then_ ?_ | refine WE.thenX rfl ?_ | refine WE.block_n ?_ | refine WE.block_x ?_ | refine WE.block_y rfl ?_ | refine WE.block_r ?_ | apply WE.drawnL | (apply WE.drawn; exact (by first | exact Env.le.rfl' _ | assumption); exact hsb_) | refine WE.ng_n ?_ | refine WE.ng_r ?_ | refine WE.ng_x ?_ | refine WE.np_n ?_ | refine WE.np_r ?_ | refine WE.np_x ?_) | refine WD.two rfl rfl ?_ ?_ | (refine WL.alloc tab_ok rfl rfl ?_; intro b8) | rw [hwq] | (refine WL.re' (H' := TlH l (.slice a0 ds.length p0) pt pq tv1 kv1 ge gc Ht1 Hk1 _) sn_ ?_; refine WL.call rfl Tryz.call36 rfl rfl (by exact (hcall _)) ?_; rintro _ Γ2 _ hle2 ⟨T2, tv2, kv2, Ht2, Hk2, ge2, gc2, rfl, hT2, rfl⟩))
  all_goals refine hz_ ?_
  all_goals exact WE.mid ⟨b8, T2, tv2, kv2, Ht2, Hk2, ge2, gc2, rfl, hle2, hT2, rfl⟩ sr_ sn_
 rintro R' Γ2 H' ⟨b8, T2, tv2, kv2, Ht2, Hk2, ge2, gc2, rfl, hle2, hT2, rfl⟩
 have hT2l := hT2.lenT
 have hT2L := hT2.len
 have hTi : T.length < T2.length := by omega
 obtain ⟨cells2, how2, hL2'⟩ := hT2.told
 obtain ⟨kcells2, hok2, hkL2⟩ := hT2.known
 obtain ⟨bt, ct, rfl, -, -⟩ := Ow.some how2 (by omega)
 obtain ⟨bk, ck, rfl, -, -⟩ := Ow.some hok2 (by omega)
 have hX2 := hX.mono (hle.trans hle2) fun _ _ h => h.mono (hle.trans hle2)
 refine hz_ ?_
 refine WC.draw 22 (.take 0 (.take 1 (.take 2 (.take 3 (.take 4 (.take 5 (.take 6 (.take 7 (.take 8 (.take 9 (.take 10 (.take 11 (.take 12 (.take 13 (.take 14 (.one 15 (.take 16 (.take 17 (.take 18 (.take 19 (.one 20 (.take 21 (.one 22 .done))))))))))))))))))))))) ((pt, cel [.int .i64 l.vers, .bool l.wide, .int .i64 l.size, .bool l.big, .bool l.far, .slice a0 ds.length p0, .map (some pq), .slice (some ⟨bt, 0, none⟩) T2.length ct, .slice (some ⟨bk, 0, none⟩) T2.length ck] 70) :: (b4, cel [.int .i64 d.kind, .string d.name, .int .i64 d.which, .int .i64 d.size, .int .i64 d.of, .slice (some ⟨bz, oz, none⟩) d.cnts.length p1, .bool d.upper, .bool d.inc, .slice a2 d.mems.length p2, .slice a3 d.pars.length p3, .slice a4 d.cons.length p4] 49) :: []) mixed hsb_ (by decide +kernel) ?_
 refine rz_ ?_
 refine WL.call rfl Tryz.call37 rfl rfl (by exact (szArr_ok (hDC.mono hle2) hcl (fun H => szD_ok hok hX2 ds.length d.of (by have := hah (.inr (.inl hk)); omega) hof H) (d.cnts.length - (q + 1)) (q + 1) rfl (by omega) _)) ?_
 rintro _ _ _ - ⟨rfl, rfl, s2, kn2, rfl, hs⟩
 refine rz_ ?_
 refine WL.owPut tab_ok rfl rfl rfl hok2 tk_ rfl hTi (by rw [Int.toNat_natCast]; omega) rfl rfl rfl (fun Hk3 hok3 => ?_)
 refine rz_ ?_
 refine hz_ ?_
 refine WC.draw 7 (.take 0 (.take 1 (.take 2 (.take 3 (.take 4 (.take 5 (.take 6 (.one 7 .done)))))))) ((pt, cel [.int .i64 l.vers, .bool l.wide, .int .i64 l.size, .bool l.big, .bool l.far, .slice a0 ds.length p0, .map (some pq), .slice (some ⟨bt, 0, none⟩) T2.length ct, .slice (some ⟨bk, 0, none⟩) T2.length ck] 70) :: (b8, cel [.int .i64 11, .string eS, .string eS, .int .i64 s2, .int .i64 R1.2, .int .i64 z, .bool false, nilS, nilS, nilS] 46) :: []) mixed hsb_ (by decide +kernel) ?_
 refine rz_ ?_
 refine WL.owPut tab_ok rfl rfl rfl how2 tk_ rfl hTi (by rw [Int.toNat_natCast]; omega) rfl rfl rfl (fun Ht3 how3 => ?_)
 refine rz_ ?_
 refine hz_ ?_
 refine WE.drop (b := b8) pk_ ?_
 refine WE.drop (b := b4) pk_ ?_
 refine WE.re (H2 := TlH l (.slice a0 ds.length p0) pt pq (.slice (some ⟨bt, 0, none⟩) T2.length ct) (.slice (some ⟨bk, 0, none⟩) T2.length ck) ge2 gc2 Ht3 Hk3 F) sn_ ?_
 have hfin := hT2.fin (i := T.length) (x := ⟨11, eS, eS, szA (szJ l ds d.of) (d.cnts.drop (q + 1)), R1.2, z, false, [], [], []⟩) (y := ⟨11, eS, eS, s2, R1.2, z, false, [], [], []⟩) (kn := kn2) hTi ⟨rfl, fun h => hs h⟩ (toldPut hTi ⟨nilS, nilS, nilS, rfl, arrN, arrN, arrN⟩ hL2' how3) (knowPut hTi hkL2 hok3)
 have hTS : T.length = S.seen.length := by omega
 refine end_1 rfl rfl hle2 ⟨T2.set T.length (⟨11, eS, eS, s2, R1.2, z, false, [], [], []⟩, kn2), .slice (some ⟨bt, 0, none⟩) T2.length ct, .slice (some ⟨bk, 0, none⟩) T2.length ck, Ht3, Hk3, ge2, gc2, by rw [hTS], by rw [← hTS]; exact hfin, rfl⟩
end
section
variable {Γ Γ0 : Env} {l : Lay} {ds : List Df} {vd tv kv : Value} {pt pq f gc j : Nat} {F Ht Hk : List Blk} {S : TSt} {T : TT} {ge : List MapEntry} {d : Df}
theorem recT_size (g : NumF) (S : TSt) (j q : Nat) (d : Df) : (recT l ds g S j q d).2.size = szN l ds d q := by
 unfold recT szN
 by_cases h9 : d.kind = 9
 ·simp [h9]
 by_cases h12 : d.kind = 12
 ·simp [h12]
 by_cases h13 : d.kind = 13
 ·simp [h13]
 by_cases h11 : d.kind = 11
 ·simp [h11]
 by_cases h15 : d.kind = 15
 ·simp [h15]
 by_cases h10 : d.kind = 10
 ·simp [h10]
 by_cases h14 : d.kind = 14
 ·simp [h14]
 by_cases h16 : d.kind = 16
 ·simp [h16]
 ·simp [h9, h12, h13, h11, h15, h10, h14, h16]
theorem szN_szJ (hok : OkDs l ds) (hd : ds[j]? = some d) (h15 : d.kind ≠ 15) (h16 : d.kind ≠ 16) (hi : d.inc = false) : szJ l ds (j : Int) = szN l ds d 0 := by
 have hO := hok.each j d hd
 have hk16 := hO.k16
 rw [szJ_step hok (by omega) (by rw [Int.toNat_natCast]; exact hd)]
 unfold szN bySize
 by_cases h9 : d.kind = 9
 ·simp [h9]
 by_cases h12 : d.kind = 12
 ·simp [h12]
 by_cases h13 : d.kind = 13
 ·simp [h13]
 by_cases h11 : d.kind = 11
 ·simp [h11]
 by_cases h10 : d.kind = 10
 ·simp [h10, hi]
 ·have hle : d.kind = 14 ∨ d.kind ≤ 8 := by omega
  simp [h9, h12, h13, h11, h15, h16, h10, hle]
theorem szN_zero (h : d.kind = 15 ∨ d.kind = 16 ∨ (d.kind = 10 ∧ d.inc = true)) : szN l ds d 0 = 0 := by
 unfold szN
 rcases h with h | h | ⟨h, hi⟩
 ·simp [h]
 ·simp [h]
 ·simp [h, hi]
theorem tq_all (ih : TlC Γ0 l ds vd pt pq f) (iha : TlA Γ0 l ds vd pt pq f) (hok : OkDs l ds) (hX : Arr Γ0 (DfC Γ0) vd ds) (hle : Γ0.le Γ) (hT : TlR Γ ds S T tv kv Ht Hk ge) (hd : ds[j]? = some d) (hm : missN ds S.seen ≤ f) (hs0 : (j, 0) ∈ S.seen) (hs1 : (j, 1) ∉ S.seen) :
  Spc Tryz.prog 24 #[.pointer (some ⟨pt, 0, none⟩), .int .i64 ((j : Nat) : Int)] Γ (TlH l vd pt pq tv kv ge gc Ht Hk F) (TyQ l vd pt pq ds F (recT l ds (numNd l ds f) S j 0 d)) := by
 by_cases h9 : d.kind = 9
 ·exact tq9 ih hok hX hle hT hd hm h9
 by_cases h12 : d.kind = 12
 ·exact tq12 ih hok hX hle hT hd hm h12
 by_cases h13 : d.kind = 13
 ·exact tq13 ih hok hX hle hT hd hm h13
 by_cases h11 : d.kind = 11
 ·exact tq11 ih hok hX hle hT hd hm h11 iha hs0 hs1
 by_cases h14 : d.kind = 14
 ·exact tq14 ih hok hX hle hT hd hm h14
 by_cases h15 : d.kind = 15
 ·exact tq15 ih hok hX hle hT hd hm h15
 by_cases h10 : d.kind = 10
 ·exact tq10 ih hok hX hle hT hd hm h10
 ·exact tqB ih hok hX hle hT hd hm h9 h12 h13 h11 h14 h15 h10
theorem tlC_step (ihA : ∀ m, m + 1 = f → TlA Γ0 l ds vd pt pq m) (ihC : ∀ m, m + 1 = f → TlC Γ0 l ds vd pt pq m) (hok : OkDs l ds) (hX : Arr Γ0 (DfC Γ0) vd ds) : TlC Γ0 l ds vd pt pq f := by
 intro Γ F S T tv kv Ht Hk ge gc n hle hT hn hm
 refine Spc.body2 Tryz.func11 rfl Tryz.ntmps11 rfl ?_
 refine hz_ ?_
 unfold numOf
 by_cases h3 : n = -3
 ·rw [show (n == -3) = true from beq_iff_eq.2 h3, if_pos h3]
  refine hz_ ?_
  exact end_1 rfl rfl (Env.le.rfl' _) ⟨T, tv, kv, Ht, Hk, ge, gc, rfl, hT, rfl⟩
 rw [show (n == -3) = false from beq_eq_false_iff_ne.2 h3, if_neg h3]
 refine hz_ ?_
 by_cases h0 : n < 0
 ·rw [if_pos h0]
  refine WC.condT rfl (decide_eq_true h0) ?_
  refine hz_ ?_
  exact end_1 rfl rfl (Env.le.rfl' _) ⟨T, tv, kv, Ht, Hk, ge, gc, rfl, hT, rfl⟩
 rw [if_neg h0]
 refine WC.condF rfl (decide_eq_false h0) ?_
 obtain ⟨j, rfl⟩ : ∃ j : Nat, n = (j : Int) := ⟨n.toNat, by omega⟩
 rw [Int.toNat_natCast]
 have hjl : j < ds.length := by omega
 obtain ⟨d, hd⟩ : ∃ d, ds[j]? = some d := ⟨_, List.getElem?_eq_getElem hjl⟩
 have hX1 := hX.mono hle fun _ _ h => h.mono hle
 obtain ⟨a0, p0, l0, rfl, hp0, hI0, hL0⟩ := hX1
 obtain ⟨bb, oo, cc, rfl, hD, hc⟩ := elemA hI0 hL0 (fun _ _ h => h.len) (w := 11) (by decide) hd
 obtain ⟨_, _, _, _, rfl, -, -, -, -⟩ := hD
 have hk0 : Γ.cell bb (oo + ((j : Nat) : Int).toNat * 11 + 0) = some (.int .i64 d.kind) := hc.1
 have hk7 : Γ.cell bb (oo + ((j : Nat) : Int).toNat * 11 + 7) = some (.bool d.inc) := cellsAt_get hc 7 _ rfl
 have hmap := hT.map j
 have hO := hok.each j d hd
 have hTl := hT.lenT
 have hTn := hT.len
 have hTf := hT.few
 have hTS : T.length = S.seen.length := by omega
 refine hz_ ?_
 cases hx : ixOf (j, 0) S.seen 0 with
 | some k =>
  rw [hx] at hmap
  cases hmf : mfind ((j : Nat) : Int) ge 0 with
  | none => rw [hmf] at hmap; cases hmap
  | some qv =>
  obtain ⟨qi, v⟩ := qv
  rw [hmf] at hmap
  injection hmap with hmap
  simp only at hmap
  subst hmap
  refine WL.lookup tab_ok rfl rfl rfl rfl rfl (.inr ⟨_, pk_⟩) hT.keys (v := .tuple #[.int .i64 ((k : Nat) : Int), .bool true]) (by rw [hmf]; rfl) rfl ?_
  refine hz_ ?_
  have e : numNd l ds f S (j, 0) = (S, (k : Int)) := by
   cases f with
   | zero => unfold numNd; rw [hx]
   | succ f => unfold numNd; rw [hx]
  rw [e]
  exact end_1 rfl rfl (Env.le.rfl' _) ⟨T, tv, kv, Ht, Hk, ge, gc, rfl, hT, rfl⟩
 | none =>
  rw [hx] at hmap
  have hmf : mfind ((j : Nat) : Int) ge 0 = none := by
   cases h : mfind ((j : Nat) : Int) ge 0 with
   | none => rfl
   | some qv => rw [h] at hmap; cases hmap
  refine WL.lookup tab_ok rfl rfl rfl rfl rfl (.inr ⟨_, pk_⟩) hT.keys (v := .tuple #[.int .i64 0, .bool false]) (by rw [hmf]; rfl) rfl ?_
  have hnm := ixOf_none hx
  have hms := missN_snoc (ds := ds) hnm hjl (by decide : 0 < 5)
  obtain ⟨m, rfl⟩ : ∃ m, f = m + 1 := ⟨f - 1, by omega⟩
  have e : numNd l ds (m + 1) S (j, 0) = (⟨(recT l ds (numNd l ds m) ⟨S.seen ++ [(j, 0)], S.told ++ [Ty.nil]⟩ j 0 d).1.seen, (recT l ds (numNd l ds m) ⟨S.seen ++ [(j, 0)], S.told ++ [Ty.nil]⟩ j 0 d).1.told.set S.seen.length (recT l ds (numNd l ds m) ⟨S.seen ++ [(j, 0)], S.told ++ [Ty.nil]⟩ j 0 d).2⟩, (S.seen.length : Int)) := by
   rw [numNd, hx]
   simp only
   rw [hd]
  rw [e]
  refine hz_ ?_
  refine WL.re' (H' := TlH l (.slice (some ⟨bb, oo, none⟩) ds.length p0) pt pq tv kv ge gc Ht Hk F) sn_ ?_
  refine WL.call rfl Tryz.call23 rfl rfl (by exact (room_ok (by omega) hT.told hT.known)) ?_
  rintro _ _ _ - ⟨rfl, tv1, kv1, Ht1, Hk1, rfl, ht1, hk1, rfl⟩
  refine hz_ ?_
  refine WL.mapNew tab_ok rfl rfl rfl rfl rfl pk_ hT.keys hmf ?_
  have hT1 : TlR Γ ds ⟨S.seen ++ [(j, 0)], S.told ++ [Ty.nil]⟩ (T ++ [(Ty.nil, false)]) tv1 kv1 Ht1 Hk1 (ge ++ [MapEntry.mk (.int .i64 (j : Int)) (.int .i64 (T.length : Int)) gc]) := by
   refine hT.room hnm hjl (Nat.zero_lt_succ _) ht1 hk1 (fun q' h => by cases h) (fun x hx => ?_) (fun i => ?_)
   ·rcases List.mem_append.1 hx with hx | hx
    ·exact hT.keys x hx
    ·rw [List.mem_singleton.1 hx]; exact ⟨_, rfl⟩
   ·rw [ixOf_app]
    by_cases ei : i = j
    ·subst ei
     rw [hx]
     obtain ⟨qq, hh⟩ := mfind_hit (v := .int .i64 (T.length : Int)) (c := gc) hT.keys hmf
     rw [hh]
     simp [hTS]
    ·rw [mfind_other (fun h => ei (by omega)) hT.keys, hT.map i]
     cases ixOf (i, 0) S.seen 0 with
     | some k => rfl
     | none => rw [if_neg (by simp only [Prod.mk.injEq, and_true]; exact fun h => ei h.symm)]
  refine hz_ ?_
  refine WL.re' (H' := TlH l (.slice (some ⟨bb, oo, none⟩) ds.length p0) pt pq tv1 kv1 (ge ++ [MapEntry.mk (.int .i64 (j : Int)) (.int .i64 (T.length : Int)) gc]) (gc + 1) Ht1 Hk1 F) sn_ ?_
  have hs1 : (j, 1) ∉ S.seen ++ [(j, 0)] := fun h => by
   rcases List.mem_append.1 h with h | h
   ·exact hnm (hT.clo j 0 h)
   ·have := List.mem_singleton.1 h
    simp at this
  refine WL.call rfl Tryz.call24 rfl rfl (by exact (tq_all (ihC m rfl) (ihA m rfl) hok hX hle hT1 hd (by simp only; omega) (List.mem_append_right _ (List.mem_singleton.2 rfl)) hs1)) ?_
  rintro _ Γ2 _ hle2 ⟨c2, T2, tv2, kv2, Ht2, Hk2, ge2, gc2, rfl, hc2, hT2, rfl⟩
  have hrl := recT_len (l := l) (ds := ds) (numNd_len (l := l) (ds := ds) m) ⟨S.seen ++ [(j, 0)], S.told ++ [Ty.nil]⟩ j 0 d
  have hrs := recT_size (l := l) (ds := ds) (numNd l ds m) ⟨S.seen ++ [(j, 0)], S.told ++ [Ty.nil]⟩ j 0 d
  simp only [List.length_append, List.length_singleton] at hrl
  generalize recT l ds (numNd l ds m) ⟨S.seen ++ [(j, 0)], S.told ++ [Ty.nil]⟩ j 0 d = RR at hc2 hT2 hrl hrs ⊢
  obtain ⟨S2, xt⟩ := RR
  simp only at hc2 hT2 hrl hrs ⊢
  have hyt : ∀ s : Int, ∃ c, TyC Γ2 { xt with size := s } c := fun s => by
   obtain ⟨vm, vp, vc, -, g1, g2, g3⟩ := hc2
   exact ⟨_, vm, vp, vc, rfl, g1, g2, g3⟩
  obtain ⟨vm, vp, vc, rfl, g1, g2, g3⟩ := hc2
  have hyt : ∀ s : Int, TyC Γ2 { xt with size := s } [.int .i64 xt.kind, .string xt.name, .string xt.own, .int .i64 s, .int .i64 xt.of, .int .i64 xt.count, .bool xt.inc, vm, vp, vc] := fun s => ⟨vm, vp, vc, rfl, g1, g2, g3⟩
  obtain ⟨a6, c6, _, rfl, -⟩ := g1
  obtain ⟨a7, c7, _, rfl, -⟩ := g2
  obtain ⟨a8, c8, _, rfl, -⟩ := g3
  have hk0' := hle2.cell hk0
  have hk7' := hle2.cell hk7
  have hT2l := hT2.lenT
  have hT2L := hT2.len
  have hTi : T.length < T2.length := by omega
  obtain ⟨cells2, how2, hL2'⟩ := hT2.told
  obtain ⟨kcells2, hok2, hkL2⟩ := hT2.known
  obtain ⟨bt, ct, rfl, -, -⟩ := Ow.some how2 (by omega)
  obtain ⟨bk, ck, rfl, -, -⟩ := Ow.some hok2 (by omega)
  have hX2 := hX.mono (hle.trans hle2) fun _ _ h => h.mono (hle.trans hle2)
  refine hz_ ?_
  (refine WL.alloc tab_ok rfl rfl ?_; intro b8)
  refine hz_ ?_
  refine WC.draw 21 (.take 0 (.take 1 (.take 2 (.take 3 (.take 4 (.take 5 (.take 6 (.take 7 (.take 8 (.take 9 (.take 10 (.take 11 (.take 12 (.take 13 (.one 14 (.take 15 (.take 16 (.take 17 (.take 18 (.one 19 (.take 20 (.one 21 .done)))))))))))))))))))))) ((pt, cel [.int .i64 l.vers, .bool l.wide, .int .i64 l.size, .bool l.big, .bool l.far, .slice (some ⟨bb, oo, none⟩) ds.length p0, .map (some pq), .slice (some ⟨bt, 0, none⟩) T2.length ct, .slice (some ⟨bk, 0, none⟩) T2.length ck] 70) :: []) mixed hsb_ (by decide +kernel) ?_
  refine rz_ ?_
  refine WL.call rfl Tryz.call25 rfl rfl (by exact (szD_ok hok hX2 (j + 1) (j : Int) (by omega) hn _)) ?_
  rintro _ _ _ - ⟨rfl, rfl, s2, kn2, rfl, hs⟩
  refine rz_ ?_
  refine WL.owPut tab_ok rfl rfl rfl hok2 tk_ rfl hTi (by rw [Int.toNat_natCast]; omega) rfl rfl rfl (fun Hk3 hok3 => ?_)
  refine rz_ ?_
  by_cases hsp : d.kind = 15 ∨ d.kind = 16 ∨ d.inc = true
  ·have hz0 : xt.size = 0 := by
    rw [hrs]
    refine szN_zero ?_
    rcases hsp with h | h | h
    ·exact .inl h
    ·exact .inr (.inl h)
    ·exact .inr (.inr ⟨(hO.inc h).1, h⟩)
   refine WC.seq ?_
   refine WC.seq ?_
   refine WC.cutM (fun R' Γ' H' => R' = [(0, .pointer (some ⟨pt, 0, none⟩)), (7, .int .i64 (T.length : Int)), (8, .pointer (some ⟨b8, 0, none⟩)), (84, .bool true)] ∧ Γ2 = Γ' ∧ H' = TlH l (.slice (some ⟨bb, oo, none⟩) ds.length p0) pt pq (.slice (some ⟨bt, 0, none⟩) T2.length ct) (.slice (some ⟨bk, 0, none⟩) T2.length ck) ge2 gc2 Ht2 Hk3 ((b8, cel [.int .i64 xt.kind, .string xt.name, .string xt.own, .int .i64 s2, .int .i64 xt.of, .int .i64 xt.count, .bool xt.inc, .slice a6 xt.mems.length c6, .slice a7 xt.pars.length c7, .slice a8 xt.cons.length c8] 46) :: F)) ?_ ?_
   ·refine hz_ ?_
    cases e15 : (d.kind == 15) with
    | true =>
     refine hz_ ?_
     exact WE.mid ⟨rfl, rfl, rfl⟩ sr_ sn_
    | false =>
    refine hz_ ?_
    cases e16 : (d.kind == 16) with
    | true =>
     refine hz_ ?_
     exact WE.mid ⟨rfl, rfl, rfl⟩ sr_ sn_
    | false =>
    have hin : d.inc = true := by
     rcases hsp with h | h | h
     ·exact absurd h (by simpa using e15)
     ·exact absurd h (by simpa using e16)
     ·exact h
    refine hz_ ?_
    rw [hin]
    exact WE.mid ⟨rfl, rfl, rfl⟩ sr_ sn_
   rintro R' _ H' ⟨rfl, rfl, rfl⟩
   refine hz_ ?_
   refine WC.draw 8 (.take 0 (.take 1 (.take 2 (.take 3 (.take 4 (.take 5 (.one 6 (.take 7 (.one 8 .done))))))))) ((pt, cel [.int .i64 l.vers, .bool l.wide, .int .i64 l.size, .bool l.big, .bool l.far, .slice (some ⟨bb, oo, none⟩) ds.length p0, .map (some pq), .slice (some ⟨bt, 0, none⟩) T2.length ct, .slice (some ⟨bk, 0, none⟩) T2.length ck] 70) :: []) mixed hsb_ (by decide +kernel) ?_
   refine rz_ ?_
   refine WL.owPut tab_ok rfl rfl rfl hok3 tk_ rfl hTi (by rw [Int.toNat_natCast]; omega) rfl rfl rfl (fun Hk4 hok4 => ?_)
   refine rz_ ?_
   have hkf : KnowR (T2.set T.length ({ xt with size := (0 : Int) }, true)) (.slice (some ⟨bk, 0, none⟩) T2.length ck) Hk4 := by
    have h1 := LisC.setAll (fun _ _ h => BolC.len h) hkL2 (i := T.length) (y := kn2) (c' := [.bool kn2]) (by rw [List.length_map]; exact hTi) rfl
    have h2 := LisC.setAll (fun _ _ h => BolC.len h) h1 (i := T.length) (y := true) (c' := [.bool true]) (by rw [List.length_set, List.length_map]; exact hTi) rfl
    rw [List.set_set] at h2
    refine ⟨_, by rw [List.length_set]; exact hok4, ?_⟩
    rw [List.map_set]
    exact h2
   refine hz_ ?_
   refine WC.draw 7 (.take 0 (.take 1 (.take 2 (.take 3 (.take 4 (.take 5 (.take 6 (.one 7 .done)))))))) ((pt, cel [.int .i64 l.vers, .bool l.wide, .int .i64 l.size, .bool l.big, .bool l.far, .slice (some ⟨bb, oo, none⟩) ds.length p0, .map (some pq), .slice (some ⟨bt, 0, none⟩) T2.length ct, .slice (some ⟨bk, 0, none⟩) T2.length ck] 70) :: (b8, cel [.int .i64 xt.kind, .string xt.name, .string xt.own, .int .i64 (0 : Int), .int .i64 xt.of, .int .i64 xt.count, .bool xt.inc, .slice a6 xt.mems.length c6, .slice a7 xt.pars.length c7, .slice a8 xt.cons.length c8] 46) :: []) mixed hsb_ (by decide +kernel) ?_
   refine rz_ ?_
   refine WL.owPut tab_ok rfl rfl rfl how2 tk_ rfl hTi (by rw [Int.toNat_natCast]; omega) rfl rfl rfl (fun Ht3 how3 => ?_)
   refine rz_ ?_
   refine hz_ ?_
   refine WE.drop (b := b8) pk_ ?_
   refine WE.re (H2 := TlH l (.slice (some ⟨bb, oo, none⟩) ds.length p0) pt pq (.slice (some ⟨bt, 0, none⟩) T2.length ct) (.slice (some ⟨bk, 0, none⟩) T2.length ck) ge2 gc2 Ht3 Hk4 F) sn_ ?_
   have hfin := hT2.fin (i := T.length) (x := xt) (y := { xt with size := (0 : Int) }) (kn := true) hTi ⟨rfl, fun _ => hz0.symm⟩ (toldPut hTi (hyt (0 : Int)) hL2' how3) hkf
   exact end_1 rfl rfl hle2 ⟨T2.set T.length ({ xt with size := (0 : Int) }, true), .slice (some ⟨bt, 0, none⟩) T2.length ct, .slice (some ⟨bk, 0, none⟩) T2.length ck, Ht3, Hk4, ge2, gc2, by rw [hTS], by rw [← hTS]; exact hfin, rfl⟩
  ·have h15 : d.kind ≠ 15 := fun h => hsp (.inl h)
   have h16 : d.kind ≠ 16 := fun h => hsp (.inr (.inl h))
   have hin : d.inc = false := by
    cases h : d.inc with
    | false => rfl
    | true => exact absurd (.inr (.inr h)) hsp
   have e15 : (d.kind == 15) = false := beq_eq_false_iff_ne.2 h15
   have e16 : (d.kind == 16) = false := beq_eq_false_iff_ne.2 h16
   refine hz_ ?_
   rw [e15]
   refine hz_ ?_
   rw [e16]
   refine hz_ ?_
   rw [hin]
   refine hz_ ?_
   have hkf : KnowR (T2.set T.length ({ xt with size := s2 }, kn2)) (.slice (some ⟨bk, 0, none⟩) T2.length ck) Hk3 := knowPut hTi hkL2 hok3
   refine hz_ ?_
   refine WC.draw 7 (.take 0 (.take 1 (.take 2 (.take 3 (.take 4 (.take 5 (.take 6 (.one 7 .done)))))))) ((pt, cel [.int .i64 l.vers, .bool l.wide, .int .i64 l.size, .bool l.big, .bool l.far, .slice (some ⟨bb, oo, none⟩) ds.length p0, .map (some pq), .slice (some ⟨bt, 0, none⟩) T2.length ct, .slice (some ⟨bk, 0, none⟩) T2.length ck] 70) :: (b8, cel [.int .i64 xt.kind, .string xt.name, .string xt.own, .int .i64 s2, .int .i64 xt.of, .int .i64 xt.count, .bool xt.inc, .slice a6 xt.mems.length c6, .slice a7 xt.pars.length c7, .slice a8 xt.cons.length c8] 46) :: []) mixed hsb_ (by decide +kernel) ?_
   refine rz_ ?_
   refine WL.owPut tab_ok rfl rfl rfl how2 tk_ rfl hTi (by rw [Int.toNat_natCast]; omega) rfl rfl rfl (fun Ht3 how3 => ?_)
   refine rz_ ?_
   refine hz_ ?_
   refine WE.drop (b := b8) pk_ ?_
   refine WE.re (H2 := TlH l (.slice (some ⟨bb, oo, none⟩) ds.length p0) pt pq (.slice (some ⟨bt, 0, none⟩) T2.length ct) (.slice (some ⟨bk, 0, none⟩) T2.length ck) ge2 gc2 Ht3 Hk3 F) sn_ ?_
   have hfin := hT2.fin (i := T.length) (x := xt) (y := { xt with size := s2 }) (kn := kn2) hTi ⟨rfl, fun h => by rw [hs h, szN_szJ hok hd h15 h16 hin]; exact hrs.symm⟩ (toldPut hTi (hyt s2) hL2' how3) hkf
   exact end_1 rfl rfl hle2 ⟨T2.set T.length ({ xt with size := s2 }, kn2), .slice (some ⟨bt, 0, none⟩) T2.length ct, .slice (some ⟨bk, 0, none⟩) T2.length ck, Ht3, Hk3, ge2, gc2, by rw [hTS], by rw [← hTS]; exact hfin, rfl⟩
theorem tl_all (hok : OkDs l ds) (hX : Arr Γ0 (DfC Γ0) vd ds) : ∀ f : Nat, TlC Γ0 l ds vd pt pq f ∧ TlA Γ0 l ds vd pt pq f
 | 0 => by
  have hC : TlC Γ0 l ds vd pt pq 0 := tlC_step (fun m h => by cases h) (fun m h => by cases h) hok hX
  exact ⟨hC, tlA_step (fun m h => by cases h) (fun m h => by cases h) hC hok hX⟩
 | f + 1 => by
  obtain ⟨h1, h2⟩ := tl_all hok hX f
  have hA : ∀ m, m + 1 = f + 1 → TlA Γ0 l ds vd pt pq m := fun m h => by
   have : m = f := by omega
   subst this
   exact @h2
  have hC' : ∀ m, m + 1 = f + 1 → TlC Γ0 l ds vd pt pq m := fun m h => by
   have : m = f := by omega
   subst this
   exact @h1
  have hC : TlC Γ0 l ds vd pt pq (f + 1) := tlC_step hA hC' hok hX
  exact ⟨hC, tlA_step hA hC' hC hok hX⟩
end
section
variable {Γ : Env} {H : List Blk} {l : Lay} {ds : List Df} {S : TSt} {T : TT} {ns : List Int} {pt : Nat} {tv wv uv nv Tv Kv : Value}
theorem heardTypes_ok (hIn : InvT l ds [] S) (hn : S.told.length ≤ 1000) (hnn : ns.length ≤ 1000000) (ht : Arr Γ (TyC Γ) tv S.told) (hw : Arr Γ NumC wv ns) (hu : Arr Γ NumC uv (ns.map fun _ => 0)) (hv : Arr Γ NumC nv ns)
  (hTl : T.length = S.told.length) (hrel : ∀ (i : Nat) (x : Ty) (y : Ty × Bool), S.told[i]? = some x → T[i]? = some y → RelT x y) (h7 : Γ.cell pt 7 = some Tv) (h8 : Γ.cell pt 8 = some Kv) (hT : Arr Γ (TyC Γ) Tv (T.map Prod.fst)) (hK : Arr Γ BolC Kv (T.map Prod.snd)) :
  Spc Tryz.prog 13 #[tv, wv, uv, .pointer (some ⟨pt, 0, none⟩), nv] Γ H (fun r Γ' H' => Γ = Γ' ∧ H = H' ∧ r = .bool true) := by
 obtain ⟨ta, tc, tl, rfl, htc, htI, htL⟩ := ht
 obtain ⟨wa, wc, wl, rfl, hwc, hwI, hwL⟩ := hw
 obtain ⟨ua, uc, ul, rfl, huc, huI, huL⟩ := hu
 obtain ⟨va, vc, vl, rfl, hvc, hvI, hvL⟩ := hv
 obtain ⟨Ta, Tc, Tl, rfl, hTc, hTI, hTL⟩ := hT
 obtain ⟨Ka, Kc, Kl, rfl, hKc, hKI, hKL⟩ := hK
 rw [List.length_map] at huc hTc hKc
 rw [List.length_map, hTl] at h7 h8
 rw [List.length_map]
 refine Spc.body5 Tryz.func13 rfl Tryz.ntmps13 rfl ?_
 refine hz_ ?_
 rw [bne_self_eq_false]
 refine hz_ ?_
 rw [bne_self_eq_false]
 refine hz_ ?_
 rw [bne_self_eq_false]
 refine hz_ ?_
 refine WC.loopE (fun m R' Γ' H' => ∃ i, R' = [(0, .slice ta S.told.length tc), (1, .slice wa ns.length wc), (2, .slice ua ns.length uc), (3, .pointer (some ⟨pt, 0, none⟩)), (36, .slice va ns.length vc), (37, .int .i64 (ns.length : Int)), (38, .int .i64 ((i : Nat) : Int))] ∧ Γ = Γ' ∧ H' = H ∧ m = ns.length - i ∧ i ≤ ns.length)
  ⟨0, rfl, rfl, rfl, rfl, Nat.zero_le _⟩ sr_ sn_ ?_
 rintro m R' Γ' H' ⟨i, rfl, rfl, rfl, rfl, hi⟩
 rcases Nat.lt_or_ge i ns.length with hlt | hge
 case inl =>
  obtain ⟨z, hz⟩ : ∃ z, ns[i]? = some z := ⟨_, List.getElem?_eq_getElem hlt⟩
  obtain ⟨b1, o1, c1, rfl, hP1, hc1⟩ := elemA hwI hwL (fun _ _ h => NumC.len h) (w := 1) (by decide) hz
  obtain ⟨b2, o2, c2, rfl, hP2, hc2⟩ := elemA huI huL (fun _ _ h => NumC.len h) (w := 1) (by decide) (i := i) (x := 0) (by rw [List.getElem?_map, hz]; rfl)
  obtain ⟨b3, o3, c3, rfl, hP3, hc3⟩ := elemA hvI hvL (fun _ _ h => NumC.len h) (w := 1) (by decide) hz
  cases hP1
  cases hP2
  cases hP3
  have hq1 := hc1.1
  have hq2 := hc2.1
  have hq3 := hc3.1
  have hwi : IntKind.i64.wrap ((i : Int) + 1) = (i : Int) + 1 := w_i64 (by omega) (by omega)
  refine hz_ ?_
  refine WC.condT rfl tr_ ?_
  refine hz_ ?_
  rw [bne_self_eq_false]
  refine hz_ ?_
  rw [bne_self_eq_false]
  refine hz_ ?_
  exact WE.again ⟨i + 1, rfl, rfl, rfl, rfl, hlt⟩ (by omega) ⟨rfl, rfl, rfl, rfl, rfl, rfl, congrArg (fun z => some (Value.int .i64 z)) hwi, trivial⟩ sn_
 have ei : i = ns.length := by omega
 subst ei
 refine hz_ ?_
 refine WC.condF rfl (decide_eq_false (by omega)) ?_
 refine hz_ ?_
 refine WC.loopE (fun m R' Γ' H1 => ∃ i, R' = [(0, .slice ta S.told.length tc), (3, .pointer (some ⟨pt, 0, none⟩)), (58, .int .i64 (S.told.length : Int)), (59, .int .i64 ((i : Nat) : Int))] ∧ Γ = Γ' ∧ H1 = H' ∧ m = S.told.length - i ∧ i ≤ S.told.length)
  ⟨0, rfl, rfl, rfl, rfl, Nat.zero_le _⟩ sr_ sn_ ?_
 rintro m R' Γ' H' ⟨i, rfl, rfl, rfl, rfl, hi⟩
 rcases Nat.lt_or_ge i S.told.length with hlt | hge
 case inr =>
  have ei : i = S.told.length := by omega
  subst ei
  refine hz_ ?_
  refine WC.condF rfl (decide_eq_false (by omega)) ?_
  refine hz_ ?_
  exact end_1 rfl rfl (Env.le.rfl' _) ⟨rfl, rfl, rfl⟩
 obtain ⟨t, ht⟩ : ∃ t, S.told[i]? = some t := ⟨_, List.getElem?_eq_getElem hlt⟩
 obtain ⟨x, d, -, hF⟩ := hIn.get ht
 obtain ⟨y, hy⟩ : ∃ y, T[i]? = some y := ⟨_, List.getElem?_eq_getElem (by omega)⟩
 obtain ⟨s, kn⟩ := y
 have hr := hrel i t _ ht hy
 obtain ⟨hr1, hr2⟩ := hr
 simp only at hr1 hr2
 obtain ⟨b1, o1, c1, rfl, hP1, hc1⟩ := elemA htI htL (fun _ _ h => TyC.len h) (w := 10) (by decide) ht
 obtain ⟨b2, o2, c2, rfl, hP2, hc2⟩ := elemA hTI hTL (fun _ _ h => TyC.len h) (w := 10) (by decide) (i := i) (x := s) (by rw [List.getElem?_map, hy]; rfl)
 obtain ⟨b3, o3, c3, rfl, hP3, hc3⟩ := elemA hKI hKL (fun _ _ h => BolC.len h) (w := 1) (by decide) (i := i) (x := kn) (by rw [List.getElem?_map, hy]; rfl)
 cases hP3
 have hwi : IntKind.i64.wrap ((i : Int) + 1) = (i : Int) + 1 := w_i64 (by omega) (by omega)
 have hQ1 := hP1
 have hQ2 := hP2
 rw [hr1] at hQ2
 obtain ⟨_, _, _, rfl, ⟨_, _, _, rfl, -, -, -⟩, ⟨_, _, _, rfl, -, -, -⟩, ⟨_, _, _, rfl, -, -, -⟩⟩ := hP1
 obtain ⟨_, _, _, rfl, ⟨_, _, _, rfl, -, -, -⟩, ⟨_, _, _, rfl, -, -, -⟩, ⟨_, _, _, rfl, -, -, -⟩⟩ := hP2
 have hq3 := hc3.1
 refine hz_ ?_
 refine WC.condT rfl tr_ ?_
 refine hz_ ?_
 refine WC.draw 20 (.take 0 (.take 1 (.take 2 (.take 3 (.take 4 (.take 5 (.take 6 (.take 7 (.take 8 (.take 9 (.take 10 (.take 11 (.take 12 (.take 13 (.take 14 (.take 15 (.take 16 (.take 17 (.one 18 (.take 19 .done)))))))))))))))))))) ([] : List Blk) mixed hsb_ (by decide +kernel) ?_
 refine rz_ ?_
 refine WL.call rfl Tryz.call14 rfl rfl (by exact (sameType_ok (kn := kn) hQ1 hQ2 hr2 (Nat.le_trans hF.mems (by decide)) (Nat.le_trans hF.pars (by decide)) (Nat.le_trans hF.cons (by decide)))) ?_
 rintro _ _ _ - ⟨rfl, rfl, rfl⟩
 refine rz_ ?_
 refine hz_ ?_
 exact WE.again ⟨i + 1, rfl, rfl, rfl, rfl, hlt⟩ (by omega) ⟨rfl, rfl, rfl, congrArg (fun z => some (Value.int .i64 z)) hwi, trivial⟩ sn_
theorem numOf_nat {g : NumF} {S : TSt} {j : Nat} : numOf g S ((j : Nat) : Int) = g S (j, 0) := by
 unfold numOf
 rw [if_neg (by omega), if_neg (by omega), Int.toNat_natCast]
end
end Go.Proofs.YtbgkbgoonjkghaaGreatDoor
