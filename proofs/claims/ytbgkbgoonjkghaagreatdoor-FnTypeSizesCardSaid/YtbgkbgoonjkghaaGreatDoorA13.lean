/- Parts of the proof: Kd Ke Kf Kg Kj Qd. -/
import Derived.Test.YtbgkbgoonjkghaaGreatDoorA3
import Derived.Test.YtbgkbgoonjkghaaGreatDoorA6
import Derived.Test.YtbgkbgoonjkghaaGreatDoorA12
import Derived.Test.YtbgkbgoonjkghaaGreatDoorA8
namespace Go.Proofs.YtbgkbgoonjkghaaGreatDoor
open Go Go.Sl
set_option maxRecDepth 10000
set_option maxHeartbeats 40000000
section
variable {Γ Γ0 : Env} {l : Lay} {ds : List Df} {B : BM} {es : List MapEntry} {pg pq f : Nat} {F : List Blk} {S : TSt} {tv : Value} {Ht : List Blk} {ge : List MapEntry} {gc j q b : Nat} {d : Df}
def TyP (pg pq : Nat) (ds : List Df) (B : BM) (F : List Blk) (R : TSt × Ty) (r : Value) (Γ' : Env) (H' : List Blk) : Prop :=
 ∃ (c : List Value) (tv' : Value) (Ht' : List Blk) (ge' : List MapEntry) (gc' : Nat), r = .agg c.toArray ∧ TyC Γ' R.2 c ∧ GR Γ' ds B R.1 tv' Ht' ge' ∧ H' = GHp pg pq tv' ge' gc' Ht' F
theorem TS.obj (hS : TS Γ0 l ds [] B es []) (hd : ds[j]? = some d) (hb : B j 0 = some b) : ObjC Γ0 B l ds j d b := by
 rcases hS.done _ d b hd hb (by simp) with hobj | ⟨-, _, hm, -⟩
 ·exact hobj
 ·cases hm
theorem sizeOf_ {H : List Blk} (hS : TS Γ0 l ds [] B es []) (hok : OkDs l ds) (hle : Γ0.le Γ) (hd : ds[j]? = some d) {v : Value} (hkv : KV Γ0 B ds d.of v) : SzC Γ H v (szJ l ds d.of) := by
 have hof := (hok.each _ d hd).d0.of1
 have hof0 := (hok.each _ d hd).d0.of0
 exact sizes (hS.mono hle) hok (fun x hx => by cases hx) (ds.length + 1) d.of v (by omega) (by omega) (hkv.mono hle (BM.le.rfl' _))
theorem dirSz {H : List Blk} (hS : TS Γ0 l ds [] B es []) (hok : OkDs l ds) (hle : Γ0.le Γ) (hd : ds[j]? = some d) (h11 : d.kind = 11) : ∀ (k q : Nat) (v : Value), q + k = d.cnts.length → DirC Γ0 B ds j d q v → SzC Γ H v (szA (szJ l ds d.of) (d.cnts.drop q))
 | 0, q, v, hq, hD => by
  unfold DirC at hD
  rw [if_neg (by omega)] at hD
  rw [List.drop_eq_nil_of_le (by omega)]
  exact sizeOf_ hS hok hle hd hD
 | k + 1, q, v, hq, hD => by
  unfold DirC at hD
  rw [if_pos (by omega)] at hD
  obtain ⟨b', hb', rfl⟩ := hD
  have hA : ObjA Γ0 B ds j d q b' := by
   cases q with
   | zero =>
    rcases hS.done _ d b' hd hb' (by simp) with hobj | ⟨h12, v, hm, -⟩
    ·unfold ObjC at hobj
     rw [if_neg (by omega), if_neg (by omega), if_pos h11] at hobj
     exact hobj
    ·cases hm
   | succ q =>
    obtain ⟨d', hd', -, hA'⟩ := hS.dir _ _ _ hb'
    rw [hd] at hd'; injection hd' with hd'; subst hd'
    exact hA'
  obtain ⟨z, c, v, hc, hi, hD'⟩ := hA
  have hlt : q < d.cnts.length := by omega
  rw [List.drop_eq_getElem_cons hlt]
  have ec : d.cnts[q] = c := by rw [List.getElem?_eq_getElem hlt] at hc; injection hc
  rw [ec]
  have hi' := hle.imm _ _ hi
  exact szc_array (.inl (cell_of hi' rfl)) (.inl (cell_of hi' rfl)) (dirSz hS hok hle hd h11 k (q + 1) v (by omega) hD')
theorem ty9 (ih : NmC Γ0 l ds B pg pq f) (hS : TS Γ0 l ds [] B es []) (hok : OkDs l ds) (hle : Γ0.le Γ) (hG : GR Γ ds B S tv Ht ge) (hd : ds[j]? = some d) (hm : missN ds S.seen ≤ f) (hk : d.kind = 9) (hb : B j 0 = some b) : Spc Tryz.prog 44 #[.pointer (some ⟨pg, 0, none⟩), pkey (tyP d.kind) b] Γ (GHp pg pq tv ge gc Ht F) (TyP pg pq ds B F (recT l ds (numNd l ds f) S j 0 d)) := by
 have htp : tyP d.kind = 240 := by rw [hk]; rfl
 have hobj := hS.obj hd hb
 unfold ObjC at hobj
 rw [if_pos hk] at hobj
 obtain ⟨v, hi, hkv⟩ := hobj
 have hi' := hle.imm _ _ hi
 have h2 : Γ.cell b (0 + 2) = some v := cell_of hi' rfl
 rw [htp]
 refine Spc.body2 Tryz.func44 rfl Tryz.ntmps44 rfl ?_
 refine hz_ ?_
 (refine WL.alloc tab_ok rfl rfl ?_; intro b4)
 refine hz_ ?_
 refine WC.draw 11 (.take 0 (.take 1 (.take 2 (.take 4 (.take 5 (.take 6 (.take 7 (.take 8 (.one 3 (.one 9 (.take 10 (.one 11 .done)))))))))))) ([] : List Blk) mixed hsb_ (by decide +kernel) ?_
 refine jz_ ?_
 refine WL.call rfl Tryz.call73 rfl rfl (by exact (sizeC_ok (.inl (cell_of hi' rfl) : Rd Γ _ b 0 (.int .i64 l.size)))) ?_
 rintro _ _ _ - ⟨rfl, rfl, rfl⟩
 refine jz_ ?_
 refine WL.re' (H' := GHp pg pq tv ge gc Ht ((b4, cel [.int .i64 0, .string eS, .string eS, .int .i64 0, .int .i64 0, .int .i64 0, .bool false, nilS, nilS, nilS] 46) :: F)) sn_ ?_
 refine WL.call rfl Tryz.call29 rfl rfl (by exact (num_kv (F := (b4, cel [.int .i64 0, .string eS, .string eS, .int .i64 0, .int .i64 0, .int .i64 0, .bool false, nilS, nilS, nilS] 46) :: F) ih hle hG hkv hm)) ?_
 rintro _ Γ1 _ hle1 ⟨tv1, Ht1, ge1, gc1, rfl, hG1, rfl⟩
 refine jz_ ?_
 refine hz_ ?_
 unfold recT
 rw [if_pos hk]
 exact end_c tab_ok rfl rfl rfl rfl pk_ rfl hle1 ⟨_, tv1, Ht1, ge1, gc1, rfl, ⟨nilS, nilS, nilS, rfl, arrN, arrN, arrN⟩, hG1, rfl⟩
theorem ty12 (ih : NmC Γ0 l ds B pg pq f) (hS : TS Γ0 l ds [] B es []) (hok : OkDs l ds) (hle : Γ0.le Γ) (hG : GR Γ ds B S tv Ht ge) (hd : ds[j]? = some d) (hm : missN ds S.seen ≤ f) (hk : d.kind = 12) (hb : B j 0 = some b) : Spc Tryz.prog 44 #[.pointer (some ⟨pg, 0, none⟩), pkey (tyP d.kind) b] Γ (GHp pg pq tv ge gc Ht F) (TyP pg pq ds B F (recT l ds (numNd l ds f) S j 0 d)) := by
 have htp : tyP d.kind = 248 := by rw [hk]; rfl
 have hobj := hS.obj hd hb
 unfold ObjC at hobj
 rw [if_neg (by omega), if_neg (by omega), if_neg (by omega), if_pos hk] at hobj
 obtain ⟨z, v, hi, hkv⟩ := hobj
 have hi' := hle.imm _ _ hi
 have h1 : Γ.cell b (0 + 1) = some (.string d.name) := cell_of hi' rfl
 have h2 : Γ.cell b (0 + 2) = some v := cell_of hi' rfl
 rw [htp]
 refine Spc.body2 Tryz.func44 rfl Tryz.ntmps44 rfl ?_
 refine hz_ ?_
 (refine WL.alloc tab_ok rfl rfl ?_; intro b4)
 refine hz_ ?_
 refine WC.draw 14 (.take 0 (.take 1 (.take 2 (.take 3 (.take 4 (.take 5 (.take 7 (.take 8 (.take 9 (.take 10 (.take 11 (.one 6 (.one 12 (.take 13 (.one 14 .done))))))))))))))) ([] : List Blk) mixed hsb_ (by decide +kernel) ?_
 refine jz_ ?_
 refine WL.call rfl Tryz.call74 rfl rfl (by exact (sizeT_ok (.inl h2) (sizeOf_ hS hok hle hd hkv))) ?_
 rintro _ _ _ - ⟨rfl, rfl, rfl⟩
 refine jz_ ?_
 refine WL.re' (H' := GHp pg pq tv ge gc Ht ((b4, cel [.int .i64 0, .string eS, .string eS, .int .i64 0, .int .i64 0, .int .i64 0, .bool false, nilS, nilS, nilS] 46) :: F)) sn_ ?_
 refine WL.call rfl Tryz.call29 rfl rfl (by exact (num_kv (F := (b4, cel [.int .i64 0, .string eS, .string eS, .int .i64 0, .int .i64 0, .int .i64 0, .bool false, nilS, nilS, nilS] 46) :: F) ih hle hG hkv hm)) ?_
 rintro _ Γ1 _ hle1 ⟨tv1, Ht1, ge1, gc1, rfl, hG1, rfl⟩
 refine jz_ ?_
 refine hz_ ?_
 unfold recT
 rw [if_neg (by omega), if_pos hk]
 exact end_c tab_ok rfl rfl rfl rfl pk_ rfl hle1 ⟨_, tv1, Ht1, ge1, gc1, rfl, ⟨nilS, nilS, nilS, rfl, arrN, arrN, arrN⟩, hG1, rfl⟩
theorem ty13 (ih : NmC Γ0 l ds B pg pq f) (hS : TS Γ0 l ds [] B es []) (hok : OkDs l ds) (hle : Γ0.le Γ) (hG : GR Γ ds B S tv Ht ge) (hd : ds[j]? = some d) (hm : missN ds S.seen ≤ f) (hk : d.kind = 13) (hb : B j 0 = some b) : Spc Tryz.prog 44 #[.pointer (some ⟨pg, 0, none⟩), pkey (tyP d.kind) b] Γ (GHp pg pq tv ge gc Ht F) (TyP pg pq ds B F (recT l ds (numNd l ds f) S j 0 d)) := by
 have htp : tyP d.kind = 230 := by rw [hk]; rfl
 have hobj := hS.obj hd hb
 unfold ObjC at hobj
 rw [if_neg (by omega), if_neg (by omega), if_neg (by omega), if_neg (by omega), if_pos hk] at hobj
 obtain ⟨z, v, hi, hkv⟩ := hobj
 have hi' := hle.imm _ _ hi
 have h1 : Γ.cell b (0 + 2) = some (.string (qualS d.which)) := cell_of hi' rfl
 have h2 : Γ.cell b (0 + 3) = some v := cell_of hi' rfl
 rw [htp]
 refine Spc.body2 Tryz.func44 rfl Tryz.ntmps44 rfl ?_
 refine hz_ ?_
 (refine WL.alloc tab_ok rfl rfl ?_; intro b4)
 refine hz_ ?_
 refine WC.draw 13 (.take 0 (.take 1 (.take 2 (.take 3 (.take 4 (.take 6 (.take 7 (.take 8 (.take 9 (.take 10 (.one 5 (.one 11 (.take 12 (.one 13 .done)))))))))))))) ([] : List Blk) mixed hsb_ (by decide +kernel) ?_
 refine jz_ ?_
 refine WL.call rfl Tryz.call75 rfl rfl (by exact (sizeQ_ok (.inl h2) (sizeOf_ hS hok hle hd hkv))) ?_
 rintro _ _ _ - ⟨rfl, rfl, rfl⟩
 refine jz_ ?_
 refine WL.re' (H' := GHp pg pq tv ge gc Ht ((b4, cel [.int .i64 0, .string eS, .string eS, .int .i64 0, .int .i64 0, .int .i64 0, .bool false, nilS, nilS, nilS] 46) :: F)) sn_ ?_
 refine WL.call rfl Tryz.call29 rfl rfl (by exact (num_kv (F := (b4, cel [.int .i64 0, .string eS, .string eS, .int .i64 0, .int .i64 0, .int .i64 0, .bool false, nilS, nilS, nilS] 46) :: F) ih hle hG hkv hm)) ?_
 rintro _ Γ1 _ hle1 ⟨tv1, Ht1, ge1, gc1, rfl, hG1, rfl⟩
 refine jz_ ?_
 refine hz_ ?_
 unfold recT
 rw [if_neg (by omega), if_neg (by omega), if_pos hk]
 exact end_c tab_ok rfl rfl rfl rfl pk_ rfl hle1 ⟨_, tv1, Ht1, ge1, gc1, rfl, ⟨nilS, nilS, nilS, rfl, arrN, arrN, arrN⟩, hG1, rfl⟩
theorem ty16 (ih : NmC Γ0 l ds B pg pq f) (hS : TS Γ0 l ds [] B es []) (hok : OkDs l ds) (hle : Γ0.le Γ) (hG : GR Γ ds B S tv Ht ge) (hd : ds[j]? = some d) (hm : missN ds S.seen ≤ f) (hk : d.kind = 16) (hb : B j 0 = some b) : Spc Tryz.prog 44 #[.pointer (some ⟨pg, 0, none⟩), pkey (tyP d.kind) b] Γ (GHp pg pq tv ge gc Ht F) (TyP pg pq ds B F (recT l ds (numNd l ds f) S j 0 d)) := by
 have htp : tyP d.kind = 250 := by rw [hk]; rfl
 have hobj := hS.obj hd hb
 unfold ObjC at hobj
 rw [if_neg (by omega), if_neg (by omega), if_neg (by omega), if_neg (by omega), if_neg (by omega), if_neg (by omega), if_neg (by omega), if_pos hk] at hobj
 have hi' := hle.imm _ _ hobj
 have h1 : Γ.cell b (0 + 1) = some (.string d.name) := cell_of hi' rfl
 rw [htp]
 refine Spc.body2 Tryz.func44 rfl Tryz.ntmps44 rfl ?_
 refine hz_ ?_
 (refine WL.alloc tab_ok rfl rfl ?_; intro b4)
 refine hz_ ?_
 unfold recT
 rw [if_neg (by omega), if_neg (by omega), if_neg (by omega), if_neg (by omega), if_neg (by omega), if_neg (by omega), if_neg (by omega), if_pos hk]
 exact end_c tab_ok rfl rfl rfl rfl pk_ rfl (Env.le.rfl' _) ⟨_, tv, Ht, ge, gc, rfl, ⟨nilS, nilS, nilS, rfl, arrN, arrN, arrN⟩, hG, rfl⟩
theorem ty1 (ih : NmC Γ0 l ds B pg pq f) (hS : TS Γ0 l ds [] B es []) (hok : OkDs l ds) (hle : Γ0.le Γ) (hG : GR Γ ds B S tv Ht ge) (hd : ds[j]? = some d) (hm : missN ds S.seen ≤ f) (hk : d.kind = 1) (hb : B j 0 = some b) : Spc Tryz.prog 44 #[.pointer (some ⟨pg, 0, none⟩), pkey (tyP d.kind) b] Γ (GHp pg pq tv ge gc Ht F) (TyP pg pq ds B F (recT l ds (numNd l ds f) S j 0 d)) := by
 have htp : tyP d.kind = 190 := by rw [hk]; rfl
 have hobj := hS.obj hd hb
 unfold ObjC at hobj
 rw [if_neg (by omega), if_neg (by omega), if_neg (by omega), if_neg (by omega), if_neg (by omega), if_neg (by omega), if_neg (by omega), if_neg (by omega)] at hobj
 have hi' := hle.imm _ _ hobj
 refine Spc.body2 Tryz.func44 rfl Tryz.ntmps44 rfl ?_
 rw [htp]
 refine hz_ ?_
 (refine WL.alloc tab_ok rfl rfl ?_; intro b4)
 refine hz_ ?_
 rw [← htp]
 refine WL.call rfl Tryz.call72 rfl rfl (by exact (basicT_ok (by omega) (by omega) hi')) ?_
 rintro _ _ _ - ⟨rfl, rfl, rfl⟩
 refine hz_ ?_
 unfold recT
 rw [if_neg (by omega), if_neg (by omega), if_neg (by omega), if_neg (by omega), if_neg (by omega), if_neg (by omega), if_neg (by omega), if_neg (by omega)]
 exact end_c tab_ok rfl rfl rfl rfl pk_ rfl (Env.le.rfl' _) ⟨_, tv, Ht, ge, gc, rfl, ⟨nilS, nilS, nilS, by rw [hk], arrN, arrN, arrN⟩, hG, rfl⟩
theorem ty2 (ih : NmC Γ0 l ds B pg pq f) (hS : TS Γ0 l ds [] B es []) (hok : OkDs l ds) (hle : Γ0.le Γ) (hG : GR Γ ds B S tv Ht ge) (hd : ds[j]? = some d) (hm : missN ds S.seen ≤ f) (hk : d.kind = 2) (hb : B j 0 = some b) : Spc Tryz.prog 44 #[.pointer (some ⟨pg, 0, none⟩), pkey (tyP d.kind) b] Γ (GHp pg pq tv ge gc Ht F) (TyP pg pq ds B F (recT l ds (numNd l ds f) S j 0 d)) := by
 have htp : tyP d.kind = 195 := by rw [hk]; rfl
 have hobj := hS.obj hd hb
 unfold ObjC at hobj
 rw [if_neg (by omega), if_neg (by omega), if_neg (by omega), if_neg (by omega), if_neg (by omega), if_neg (by omega), if_neg (by omega), if_neg (by omega)] at hobj
 have hi' := hle.imm _ _ hobj
 refine Spc.body2 Tryz.func44 rfl Tryz.ntmps44 rfl ?_
 rw [htp]
 refine hz_ ?_
 (refine WL.alloc tab_ok rfl rfl ?_; intro b4)
 refine hz_ ?_
 rw [← htp]
 refine WL.call rfl Tryz.call72 rfl rfl (by exact (basicT_ok (by omega) (by omega) hi')) ?_
 rintro _ _ _ - ⟨rfl, rfl, rfl⟩
 refine hz_ ?_
 unfold recT
 rw [if_neg (by omega), if_neg (by omega), if_neg (by omega), if_neg (by omega), if_neg (by omega), if_neg (by omega), if_neg (by omega), if_neg (by omega)]
 exact end_c tab_ok rfl rfl rfl rfl pk_ rfl (Env.le.rfl' _) ⟨_, tv, Ht, ge, gc, rfl, ⟨nilS, nilS, nilS, by rw [hk], arrN, arrN, arrN⟩, hG, rfl⟩
theorem ty3 (ih : NmC Γ0 l ds B pg pq f) (hS : TS Γ0 l ds [] B es []) (hok : OkDs l ds) (hle : Γ0.le Γ) (hG : GR Γ ds B S tv Ht ge) (hd : ds[j]? = some d) (hm : missN ds S.seen ≤ f) (hk : d.kind = 3) (hb : B j 0 = some b) : Spc Tryz.prog 44 #[.pointer (some ⟨pg, 0, none⟩), pkey (tyP d.kind) b] Γ (GHp pg pq tv ge gc Ht F) (TyP pg pq ds B F (recT l ds (numNd l ds f) S j 0 d)) := by
 have htp : tyP d.kind = 197 := by rw [hk]; rfl
 have hobj := hS.obj hd hb
 unfold ObjC at hobj
 rw [if_neg (by omega), if_neg (by omega), if_neg (by omega), if_neg (by omega), if_neg (by omega), if_neg (by omega), if_neg (by omega), if_neg (by omega)] at hobj
 have hi' := hle.imm _ _ hobj
 refine Spc.body2 Tryz.func44 rfl Tryz.ntmps44 rfl ?_
 rw [htp]
 refine hz_ ?_
 (refine WL.alloc tab_ok rfl rfl ?_; intro b4)
 refine hz_ ?_
 rw [← htp]
 refine WL.call rfl Tryz.call72 rfl rfl (by exact (basicT_ok (by omega) (by omega) hi')) ?_
 rintro _ _ _ - ⟨rfl, rfl, rfl⟩
 refine hz_ ?_
 unfold recT
 rw [if_neg (by omega), if_neg (by omega), if_neg (by omega), if_neg (by omega), if_neg (by omega), if_neg (by omega), if_neg (by omega), if_neg (by omega)]
 exact end_c tab_ok rfl rfl rfl rfl pk_ rfl (Env.le.rfl' _) ⟨_, tv, Ht, ge, gc, rfl, ⟨nilS, nilS, nilS, by rw [hk], arrN, arrN, arrN⟩, hG, rfl⟩
theorem ty4 (ih : NmC Γ0 l ds B pg pq f) (hS : TS Γ0 l ds [] B es []) (hok : OkDs l ds) (hle : Γ0.le Γ) (hG : GR Γ ds B S tv Ht ge) (hd : ds[j]? = some d) (hm : missN ds S.seen ≤ f) (hk : d.kind = 4) (hb : B j 0 = some b) : Spc Tryz.prog 44 #[.pointer (some ⟨pg, 0, none⟩), pkey (tyP d.kind) b] Γ (GHp pg pq tv ge gc Ht F) (TyP pg pq ds B F (recT l ds (numNd l ds f) S j 0 d)) := by
 have htp : tyP d.kind = 199 := by rw [hk]; rfl
 have hobj := hS.obj hd hb
 unfold ObjC at hobj
 rw [if_neg (by omega), if_neg (by omega), if_neg (by omega), if_neg (by omega), if_neg (by omega), if_neg (by omega), if_neg (by omega), if_neg (by omega)] at hobj
 have hi' := hle.imm _ _ hobj
 refine Spc.body2 Tryz.func44 rfl Tryz.ntmps44 rfl ?_
 rw [htp]
 refine hz_ ?_
 (refine WL.alloc tab_ok rfl rfl ?_; intro b4)
 refine hz_ ?_
 rw [← htp]
 refine WL.call rfl Tryz.call72 rfl rfl (by exact (basicT_ok (by omega) (by omega) hi')) ?_
 rintro _ _ _ - ⟨rfl, rfl, rfl⟩
 refine hz_ ?_
 unfold recT
 rw [if_neg (by omega), if_neg (by omega), if_neg (by omega), if_neg (by omega), if_neg (by omega), if_neg (by omega), if_neg (by omega), if_neg (by omega)]
 exact end_c tab_ok rfl rfl rfl rfl pk_ rfl (Env.le.rfl' _) ⟨_, tv, Ht, ge, gc, rfl, ⟨nilS, nilS, nilS, by rw [hk], arrN, arrN, arrN⟩, hG, rfl⟩
theorem ty5 (ih : NmC Γ0 l ds B pg pq f) (hS : TS Γ0 l ds [] B es []) (hok : OkDs l ds) (hle : Γ0.le Γ) (hG : GR Γ ds B S tv Ht ge) (hd : ds[j]? = some d) (hm : missN ds S.seen ≤ f) (hk : d.kind = 5) (hb : B j 0 = some b) : Spc Tryz.prog 44 #[.pointer (some ⟨pg, 0, none⟩), pkey (tyP d.kind) b] Γ (GHp pg pq tv ge gc Ht F) (TyP pg pq ds B F (recT l ds (numNd l ds f) S j 0 d)) := by
 have htp : tyP d.kind = 201 := by rw [hk]; rfl
 have hobj := hS.obj hd hb
 unfold ObjC at hobj
 rw [if_neg (by omega), if_neg (by omega), if_neg (by omega), if_neg (by omega), if_neg (by omega), if_neg (by omega), if_neg (by omega), if_neg (by omega)] at hobj
 have hi' := hle.imm _ _ hobj
 refine Spc.body2 Tryz.func44 rfl Tryz.ntmps44 rfl ?_
 rw [htp]
 refine hz_ ?_
 (refine WL.alloc tab_ok rfl rfl ?_; intro b4)
 refine hz_ ?_
 rw [← htp]
 refine WL.call rfl Tryz.call72 rfl rfl (by exact (basicT_ok (by omega) (by omega) hi')) ?_
 rintro _ _ _ - ⟨rfl, rfl, rfl⟩
 refine hz_ ?_
 unfold recT
 rw [if_neg (by omega), if_neg (by omega), if_neg (by omega), if_neg (by omega), if_neg (by omega), if_neg (by omega), if_neg (by omega), if_neg (by omega)]
 exact end_c tab_ok rfl rfl rfl rfl pk_ rfl (Env.le.rfl' _) ⟨_, tv, Ht, ge, gc, rfl, ⟨nilS, nilS, nilS, by rw [hk], arrN, arrN, arrN⟩, hG, rfl⟩
theorem ty6 (ih : NmC Γ0 l ds B pg pq f) (hS : TS Γ0 l ds [] B es []) (hok : OkDs l ds) (hle : Γ0.le Γ) (hG : GR Γ ds B S tv Ht ge) (hd : ds[j]? = some d) (hm : missN ds S.seen ≤ f) (hk : d.kind = 6) (hb : B j 0 = some b) : Spc Tryz.prog 44 #[.pointer (some ⟨pg, 0, none⟩), pkey (tyP d.kind) b] Γ (GHp pg pq tv ge gc Ht F) (TyP pg pq ds B F (recT l ds (numNd l ds f) S j 0 d)) := by
 have htp : tyP d.kind = 205 := by rw [hk]; rfl
 have hobj := hS.obj hd hb
 unfold ObjC at hobj
 rw [if_neg (by omega), if_neg (by omega), if_neg (by omega), if_neg (by omega), if_neg (by omega), if_neg (by omega), if_neg (by omega), if_neg (by omega)] at hobj
 have hi' := hle.imm _ _ hobj
 refine Spc.body2 Tryz.func44 rfl Tryz.ntmps44 rfl ?_
 rw [htp]
 refine hz_ ?_
 (refine WL.alloc tab_ok rfl rfl ?_; intro b4)
 refine hz_ ?_
 rw [← htp]
 refine WL.call rfl Tryz.call72 rfl rfl (by exact (basicT_ok (by omega) (by omega) hi')) ?_
 rintro _ _ _ - ⟨rfl, rfl, rfl⟩
 refine hz_ ?_
 unfold recT
 rw [if_neg (by omega), if_neg (by omega), if_neg (by omega), if_neg (by omega), if_neg (by omega), if_neg (by omega), if_neg (by omega), if_neg (by omega)]
 exact end_c tab_ok rfl rfl rfl rfl pk_ rfl (Env.le.rfl' _) ⟨_, tv, Ht, ge, gc, rfl, ⟨nilS, nilS, nilS, by rw [hk], arrN, arrN, arrN⟩, hG, rfl⟩
theorem ty7 (ih : NmC Γ0 l ds B pg pq f) (hS : TS Γ0 l ds [] B es []) (hok : OkDs l ds) (hle : Γ0.le Γ) (hG : GR Γ ds B S tv Ht ge) (hd : ds[j]? = some d) (hm : missN ds S.seen ≤ f) (hk : d.kind = 7) (hb : B j 0 = some b) : Spc Tryz.prog 44 #[.pointer (some ⟨pg, 0, none⟩), pkey (tyP d.kind) b] Γ (GHp pg pq tv ge gc Ht F) (TyP pg pq ds B F (recT l ds (numNd l ds f) S j 0 d)) := by
 have htp : tyP d.kind = 203 := by rw [hk]; rfl
 have hobj := hS.obj hd hb
 unfold ObjC at hobj
 rw [if_neg (by omega), if_neg (by omega), if_neg (by omega), if_neg (by omega), if_neg (by omega), if_neg (by omega), if_neg (by omega), if_neg (by omega)] at hobj
 have hi' := hle.imm _ _ hobj
 refine Spc.body2 Tryz.func44 rfl Tryz.ntmps44 rfl ?_
 rw [htp]
 refine hz_ ?_
 (refine WL.alloc tab_ok rfl rfl ?_; intro b4)
 refine hz_ ?_
 rw [← htp]
 refine WL.call rfl Tryz.call72 rfl rfl (by exact (basicT_ok (by omega) (by omega) hi')) ?_
 rintro _ _ _ - ⟨rfl, rfl, rfl⟩
 refine hz_ ?_
 unfold recT
 rw [if_neg (by omega), if_neg (by omega), if_neg (by omega), if_neg (by omega), if_neg (by omega), if_neg (by omega), if_neg (by omega), if_neg (by omega)]
 exact end_c tab_ok rfl rfl rfl rfl pk_ rfl (Env.le.rfl' _) ⟨_, tv, Ht, ge, gc, rfl, ⟨nilS, nilS, nilS, by rw [hk], arrN, arrN, arrN⟩, hG, rfl⟩
theorem ty8 (ih : NmC Γ0 l ds B pg pq f) (hS : TS Γ0 l ds [] B es []) (hok : OkDs l ds) (hle : Γ0.le Γ) (hG : GR Γ ds B S tv Ht ge) (hd : ds[j]? = some d) (hm : missN ds S.seen ≤ f) (hk : d.kind = 8) (hb : B j 0 = some b) : Spc Tryz.prog 44 #[.pointer (some ⟨pg, 0, none⟩), pkey (tyP d.kind) b] Γ (GHp pg pq tv ge gc Ht F) (TyP pg pq ds B F (recT l ds (numNd l ds f) S j 0 d)) := by
 have htp : tyP d.kind = 207 := by rw [hk]; rfl
 have hobj := hS.obj hd hb
 unfold ObjC at hobj
 rw [if_neg (by omega), if_neg (by omega), if_neg (by omega), if_neg (by omega), if_neg (by omega), if_neg (by omega), if_neg (by omega), if_neg (by omega)] at hobj
 have hi' := hle.imm _ _ hobj
 refine Spc.body2 Tryz.func44 rfl Tryz.ntmps44 rfl ?_
 rw [htp]
 refine hz_ ?_
 (refine WL.alloc tab_ok rfl rfl ?_; intro b4)
 refine hz_ ?_
 rw [← htp]
 refine WL.call rfl Tryz.call72 rfl rfl (by exact (basicT_ok (by omega) (by omega) hi')) ?_
 rintro _ _ _ - ⟨rfl, rfl, rfl⟩
 refine hz_ ?_
 unfold recT
 rw [if_neg (by omega), if_neg (by omega), if_neg (by omega), if_neg (by omega), if_neg (by omega), if_neg (by omega), if_neg (by omega), if_neg (by omega)]
 exact end_c tab_ok rfl rfl rfl rfl pk_ rfl (Env.le.rfl' _) ⟨_, tv, Ht, ge, gc, rfl, ⟨nilS, nilS, nilS, by rw [hk], arrN, arrN, arrN⟩, hG, rfl⟩
theorem ty11 (ih : NmC Γ0 l ds B pg pq f) (hS : TS Γ0 l ds [] B es []) (hok : OkDs l ds) (hle : Γ0.le Γ) (hG : GR Γ ds B S tv Ht ge) (hd : ds[j]? = some d) (hm : missN ds S.seen ≤ f) (hk : d.kind = 11) (hA : ObjA Γ0 B ds j d q b) : Spc Tryz.prog 44 #[.pointer (some ⟨pg, 0, none⟩), pkey (tyP d.kind) b] Γ (GHp pg pq tv ge gc Ht F) (TyP pg pq ds B F (recT l ds (numNd l ds f) S j q d)) := by
 have htp : tyP d.kind = 184 := by rw [hk]; rfl
 obtain ⟨z, n, v, hc, hi, hD⟩ := hA
 have hqlt := (List.getElem?_eq_some_iff.1 hc).1
 have hi' := hle.imm _ _ hi
 have h2 : Γ.cell b (0 + 2) = some v := cell_of hi' rfl
 have h4 : Γ.cell b (0 + 4) = some (.int .i64 n) := cell_of hi' rfl
 have hsz : ∀ {H : List Blk}, SzC Γ H v (szA (szJ l ds d.of) (d.cnts.drop (q + 1))) := fun {H} => dirSz hS hok hle hd hk (d.cnts.length - (q + 1)) (q + 1) v (by omega) hD
 have hes : (if n = -1 then 0 else IntKind.i64.wrap (n * szA (szJ l ds d.of) (d.cnts.drop (q + 1)))) = szA (szJ l ds d.of) (d.cnts.drop q) := by
  have ec : d.cnts[q] = n := by rw [List.getElem?_eq_getElem hqlt] at hc; injection hc
  rw [List.drop_eq_getElem_cons hqlt, ec]; rfl
 have hgd : d.cnts.getD q 0 = n := by rw [List.getD_eq_getElem?_getD, hc]; rfl
 have hnum : ∀ {F : List Blk}, Spc Tryz.prog 29 #[.pointer (some ⟨pg, 0, none⟩), v] Γ (GHp pg pq tv ge gc Ht F) (NmP pg pq ds B F (if q + 1 < d.cnts.length then numNd l ds f S (j, q + 1) else numOf (numNd l ds f) S d.of)) := fun {F} => by
  unfold DirC at hD
  by_cases hq : q + 1 < d.cnts.length
  ·rw [if_pos hq] at hD ⊢
   obtain ⟨b', hb', rfl⟩ := hD
   have := ih (F := F) (gc := gc) (x := (j, q + 1)) hle hG hd hb' hm
   rw [htp] at this
   exact this
  ·rw [if_neg hq] at hD ⊢
   exact num_kv ih hle hG hD hm
 rw [htp]
 refine Spc.body2 Tryz.func44 rfl Tryz.ntmps44 rfl ?_
 refine hz_ ?_
 (refine WL.alloc tab_ok rfl rfl ?_; intro b4)
 refine hz_ ?_
 refine WC.draw 13 (.take 0 (.take 2 (.take 3 (.take 4 (.take 5 (.take 6 (.take 7 (.take 8 (.take 9 (.take 10 (.one 1 (.one 11 (.take 12 (.one 13 .done)))))))))))))) ([] : List Blk) mixed hsb_ (by decide +kernel) ?_
 refine jz_ ?_
 refine WL.call rfl Tryz.call76 rfl rfl (by exact (sizeA_ok (.inl h2) (.inl h4) hsz)) ?_
 rintro _ _ _ - ⟨rfl, rfl, rfl⟩
 rw [hes]
 refine jz_ ?_
 refine WL.re' (H' := GHp pg pq tv ge gc Ht ((b4, cel [.int .i64 0, .string eS, .string eS, .int .i64 0, .int .i64 0, .int .i64 0, .bool false, nilS, nilS, nilS] 46) :: F)) sn_ ?_
 refine WL.call rfl Tryz.call29 rfl rfl (by exact (hnum (F := (b4, cel [.int .i64 0, .string eS, .string eS, .int .i64 0, .int .i64 0, .int .i64 0, .bool false, nilS, nilS, nilS] 46) :: F))) ?_
 rintro _ Γ1 _ hle1 ⟨tv1, Ht1, ge1, gc1, rfl, hG1, rfl⟩
 refine jz_ ?_
 refine hz_ ?_
 unfold recT
 rw [if_neg (by omega), if_neg (by omega), if_neg (by omega), if_pos hk]
 simp only
 exact end_c tab_ok rfl rfl rfl rfl pk_ rfl hle1 ⟨_, tv1, Ht1, ge1, gc1, rfl, ⟨nilS, nilS, nilS, by rw [hgd]; rfl, arrN, arrN, arrN⟩, hG1, rfl⟩
end
section
variable {Γ Γ0 : Env} {l : Lay} {ds : List Df} {B : BM} {es : List MapEntry} {pg pq f : Nat} {F : List Blk} {S : TSt} {tv : Value} {Ht : List Blk} {ge : List MapEntry} {gc j q b : Nat} {d : Df}
theorem numsP_snoc (g : NumF) (p : Int) : ∀ (ps : List Int) (S : TSt), numsP g S (ps ++ [p]) = ((numOf g (numsP g S ps).1 p).1, (numsP g S ps).2 ++ [(numOf g (numsP g S ps).1 p).2])
 | [], S => rfl
 | x :: ps, S => by rw [List.cons_append, numsP, numsP_snoc g p ps, numsP]; rfl
theorem numsM_snoc (g : NumF) (m : Mem) : ∀ (ms : List Mem) (S : TSt), numsM g S (ms ++ [m]) = ((numOf g (numsM g S ms).1 m.of).1, (numsM g S ms).2 ++ [⟨m.name, m.off, (numOf g (numsM g S ms).1 m.of).2⟩])
 | [], S => rfl
 | x :: ms, S => by rw [List.cons_append, numsM, numsM_snoc g m ms, numsM]; rfl
theorem numsP_len (g : NumF) : ∀ (ps : List Int) (S : TSt), (numsP g S ps).2.length = ps.length
 | [], _ => rfl
 | p :: ps, S => by rw [numsP, List.length_cons, numsP_len g ps, List.length_cons]
theorem numsM_len (g : NumF) : ∀ (ps : List Mem) (S : TSt), (numsM g S ps).2.length = ps.length
 | [], _ => rfl
 | p :: ps, S => by rw [numsM, List.length_cons, numsM_len g ps, List.length_cons]
theorem conC_one {x : Con} {c : List Value} (h : ConC x c) : ∀ y ∈ c, y.oneCell' = true := by
 rw [h]
 intro y hy
 simp only [List.mem_cons, List.not_mem_nil, or_false] at hy
 rcases hy with rfl | rfl <;> rfl
theorem ty14 (ih : NmC Γ0 l ds B pg pq f) (hS : TS Γ0 l ds [] B es []) (hok : OkDs l ds) (hle : Γ0.le Γ) (hG : GR Γ ds B S tv Ht ge) (hd : ds[j]? = some d) (hm : missN ds S.seen ≤ f) (hk : d.kind = 14) (hb : B j 0 = some b) : Spc Tryz.prog 44 #[.pointer (some ⟨pg, 0, none⟩), pkey (tyP d.kind) b] Γ (GHp pg pq tv ge gc Ht F) (TyP pg pq ds B F (recT l ds (numNd l ds f) S j 0 d)) := by
 have htp : tyP d.kind = 233 := by rw [hk]; rfl
 have hobj := hS.obj hd hb
 unfold ObjC at hobj
 rw [if_neg (by omega), if_neg (by omega), if_neg (by omega), if_neg (by omega), if_neg (by omega), if_pos hk] at hobj
 obtain ⟨vs, hi, hA⟩ := hobj
 have hi' := hle.imm _ _ hi
 have h1 : Γ.cell b (0 + 2) = some (.string d.name) := cell_of hi' rfl
 have h3 : Γ.cell b (0 + 3) = some vs := cell_of hi' rfl
 obtain ⟨aA, capA, cellsA, rfl, hcapA, hIA, hLA⟩ := hA.mono hle fun _ _ h => h.mono hle
 have hcl := (hok.each _ d hd).d0.conl
 rw [htp]
 refine Spc.body2 Tryz.func44 rfl Tryz.ntmps44 rfl ?_
 refine hz_ ?_
 (refine WL.alloc tab_ok rfl rfl ?_; intro b4)
 refine hz_ ?_
 refine WC.cutM (fun R' Γ' H' => ∃ b19, R' = [(0, .pointer (some ⟨pg, 0, none⟩)), (4, .pointer (some ⟨b4, 0, none⟩)), (18, .pointer (some ⟨b, 0, none⟩)), (19, .pointer (some ⟨b19, 0, none⟩))] ∧ Γ = Γ' ∧
  H' = (b19, cel [.int .i64 14, .string d.name, .string eS, .int .i64 d.size, .int .i64 (-1), .int .i64 0, .bool false, nilS, nilS, nilS] 46) :: (b4, cel [.int .i64 0, .string eS, .string eS, .int .i64 0, .int .i64 0, .int .i64 0, .bool false, nilS, nilS, nilS] 46) :: GHp pg pq tv ge gc Ht F) ?_ ?_
 ·refine WC.draw 10 (.take 0 (.take 1 (.take 2 (.take 3 (.take 4 (.take 5 (.take 6 (.two 7 9 (.take 8 (.one 9 (.one 10 .done))) (.one 7 (.take 8 (.one 10 .done))))))))))) ([] : List Blk) mixed hsb_ (by decide +kernel) ?_
  repeat' (first | (refine WD.g ?_; first | refine WD.one rfl ?_ | refine WD.done ?_ | (refine WD.gTake ?_; first | refine WD.run tab_ok np_ rfl rfl ?_ | (refine WD.at_ rfl ?_; (first | (refine WT.gLoad ?_; first | refine WT.load np_ rfl rfl hld_ ?_ | refine WT.loadG np_ rfl rfl rfl hld_ ?_) | (refine WT.gIdx ?_; first | refine WT.idx tab_ok np_ rfl rfl rfl rfl rfl (by omega) (by omega) ?_ | refine WT.idxG tab_ok np_ rfl rfl rfl rfl rfl rfl (by omega) (by omega) ?_) | (refine WT.gSlice ?_; refine WT.slLo tab_ok np_ rfl rfl rfl rfl rfl (by omega) (by omega) (by omega) ?_) | (refine WT.gBuild ?_; refine WT.build tab_ok np_ rfl rfl spi_ ?_) | refine WT.pure tab_ok np_ rfl rfl ?_ | refine WT.pureG tab_ok np_ rfl rfl rfl ?_ | refine WT.noG np_ rfl rfl rfl ?_)))) | (refine WL.g ?_; first | refine WL.nil ?_ | refine WL.run tab_ok rfl rfl ?_ | (refine WL.gLoad ?_; first | refine WL.ld tab_ok rfl rfl rfl pk_ rfl rfl ?_ | refine WL.ldA tab_ok rfl rfl rfl pk_ cut_ rfl ?_ | refine WL.ldI tab_ok rfl rfl rfl (by assumption) rfl ?_ | refine WL.ldR tab_ok rfl rfl rfl hrd_ rfl ?_ | refine WL.ldAI tab_ok rfl rfl rfl (by assumption) rfl rfl ?_) | (refine WL.gStore ?_; refine WL.st tab_ok rfl rfl rfl pk_ spl_ rfl rfl ?_) | (refine WL.gIdx ?_; refine WL.idx tab_ok rfl rfl rfl rfl (by omega) (by omega) rfl ?_) | (refine WL.gBuild ?_; refine WL.build tab_ok rfl spi_ rfl ?_) | (refine WL.gSlice ?_; first | refine WL.slLo tab_ok rfl rfl rfl rfl (by omega) (by omega) (by omega) rfl ?_ | refine WL.slHi tab_ok rfl rfl rfl rfl (by omega) (by omega) rfl ?_ | refine WL.slLH tab_ok rfl rfl rfl rfl rfl (by omega) (by omega) (by omega) rfl ?_) | (refine WL.gBin ?_; first | refine WL.pure tab_ok (evalP_shl rfl rfl (by omega)) rfl ?_ | refine WL.pure tab_ok (evalP_shr rfl rfl (by omega)) rfl ?_) | refine WL.pure tab_ok rfl rfl ?_ | (refine WL.gGuard ?_; first | refine WL.yes rfl rfl rfl ?_ | refine WL.no rfl rfl rfl rfl rfl ?_ | refine WL.noU rfl rfl rfl rfl ?_)) | (refine WE.g ?_; first | refine WE.then_ ?_ | refine WE.thenX rfl ?_ | refine WE.block_n ?_ | refine WE.block_x ?_ | refine WE.block_y rfl ?_ | refine WE.block_r ?_ | apply WE.drawnL | (apply WE.drawn; exact (by first | exact Env.le.rfl' _ | assumption); exact hsb_) | refine WE.ng_n ?_ | refine WE.ng_r ?_ | refine WE.ng_x ?_ | refine WE.np_n ?_ | refine WE.np_r ?_ | refine WE.np_x ?_) | refine WD.two rfl rfl ?_ ?_ | (refine WL.alloc tab_ok rfl rfl ?_; intro b19) | (refine WL.call rfl Tryz.call73 rfl rfl (by exact (sizeC_ok (.inl (cell_of hi' rfl) : Rd Γ _ b 0 (.int .i64 d.size)))) ?_; rintro _ _ _ - ⟨rfl, rfl, rfl⟩))
  all_goals exact WE.mid ⟨b19, rfl, rfl, rfl⟩ sr_ sn_
 rintro _ _ _ ⟨b19, rfl, rfl, rfl⟩
 refine hz_ ?_
 refine WC.loopE (fun m R' Γ' H' => ∃ k vc cells Hd, R' = [(0, .pointer (some ⟨pg, 0, none⟩)), (4, .pointer (some ⟨b4, 0, none⟩)), (19, .pointer (some ⟨b19, 0, none⟩)), (159, .slice aA d.cons.length capA), (160, .int .i64 (d.cons.length : Int)), (161, .int .i64 ((k : Nat) : Int))] ∧ m = d.cons.length - k ∧ k ≤ d.cons.length ∧ Γ = Γ' ∧
   Ow 2 vc k cells Hd ∧ LisC ConC (d.cons.take k) cells ∧ H' = (b19, cel [.int .i64 14, .string d.name, .string eS, .int .i64 d.size, .int .i64 (-1), .int .i64 0, .bool false, nilS, nilS, vc] 46) :: (b4, cel [.int .i64 0, .string eS, .string eS, .int .i64 0, .int .i64 0, .int .i64 0, .bool false, nilS, nilS, nilS] 46) :: (Hd ++ GHp pg pq tv ge gc Ht F))
  ⟨0, nilS, [], [], rfl, rfl, Nat.zero_le _, rfl, Ow.nil, rfl, rfl⟩ sr_ sn_ ?_
 rintro m R' Γ' H' ⟨k, vc, cells, Hd, rfl, rfl, hkl, rfl, how, hL, rfl⟩
 obtain ⟨a9, c9, rfl⟩ := Ow.shape how
 rcases Nat.lt_or_ge k d.cons.length with hlt | hge
 case inr =>
  have ek : k = d.cons.length := by omega
  subst ek
  rw [List.take_length] at hL
  refine hz_ ?_
  refine WC.condF rfl (decide_eq_false (by omega)) ?_
  refine hz_ ?_
  refine WE.keep how tk_ (fun Γ4 hle4 him => ?_)
  refine WE.drop (b := b19) pk_ ?_
  unfold recT
  rw [if_neg (by omega), if_neg (by omega), if_neg (by omega), if_neg (by omega), if_neg (by omega), if_neg (by omega), if_pos hk]
  exact end_c tab_ok rfl rfl rfl rfl pk_ rfl hle4 ⟨_, tv, Ht, ge, gc, rfl, ⟨nilS, nilS, .slice a9 d.cons.length c9, rfl, arrN, arrN, Im.arr him hL⟩, hG.mono hle4, rfl⟩
 obtain ⟨x, hx⟩ : ∃ x, d.cons[k]? = some x := ⟨_, List.getElem?_eq_getElem hlt⟩
 have hxl : d.cons.take (k + 1) = d.cons.take k ++ [x] := by rw [List.take_add_one, hx]; rfl
 obtain ⟨bb, oo, cc, rfl, ⟨bx, rfl, hbx⟩, hc⟩ := elemA hIA hLA (fun _ _ ⟨_, h, _⟩ => by rw [h]; rfl) (w := 1) (by decide) hx
 have hc0 := hc.1
 have hx0 : Γ.cell bx (0 + 0) = some (.string x.name) := cell_of hbx rfl
 have hx1 : Γ.cell bx (0 + 1) = some (.int .i64 x.val) := cell_of hbx rfl
 have hwi : IntKind.i64.wrap (((k : Nat) : Int) + 1) = ((k + 1 : Nat) : Int) := by rw [w_i64 (by omega) (by omega)]; omega
 refine hz_ ?_
 refine WC.condT rfl tr_ ?_
 refine hz_ ?_
 refine WC.draw 14 (.take 0 (.take 1 (.take 2 (.take 3 (.take 4 (.take 5 (.take 6 (.take 7 (.take 8 (.take 9 (.take 10 (.one 11 (.one 12 (.take 13 (.one 14 .done))))))))))))))) ((b19, cel [.int .i64 14, .string d.name, .string eS, .int .i64 d.size, .int .i64 (-1), .int .i64 0, .bool false, nilS, nilS, .slice a9 k c9] 46) :: []) mixed hsb_ (by decide +kernel) ?_
 refine jz_ ?_
 (refine WL.lit tab_ok rfl rfl rfl rfl rfl rfl rfl spi_ rfl ?_; intro bq)
 refine jz_ ?_
 refine WL.append tab_ok rfl rfl rfl rfl rfl rfl rfl rfl how tk_ ((Ow.lit (s := 2) (b := bq) (k := 1) (l := [.string x.name, .int .i64 x.val]) (T := 95) rfl).src tab_ok rfl t1_ (conC_one (x := x) rfl)) (by omega) (by omega) (fun v5 Hs5 how5 => ?_)
 obtain ⟨a5, c5, rfl⟩ := Ow.shape how5
 refine jz_ ?_
 refine hz_ ?_
 rw [hwi]
 exact WE.again ⟨k + 1, .slice a5 (k + 1) c5, _, Hs5, rfl, rfl, hlt, rfl, how5, by rw [hxl]; exact LisC.append hL (LisC.one rfl), rfl⟩ (by omega) sr_ sn_
theorem ty15 (ih : NmC Γ0 l ds B pg pq f) (hS : TS Γ0 l ds [] B es []) (hok : OkDs l ds) (hle : Γ0.le Γ) (hG : GR Γ ds B S tv Ht ge) (hd : ds[j]? = some d) (hm : missN ds S.seen ≤ f) (hk : d.kind = 15) (hb : B j 0 = some b) : Spc Tryz.prog 44 #[.pointer (some ⟨pg, 0, none⟩), pkey (tyP d.kind) b] Γ (GHp pg pq tv ge gc Ht F) (TyP pg pq ds B F (recT l ds (numNd l ds f) S j 0 d)) := by
 have htp : tyP d.kind = 243 := by rw [hk]; rfl
 have hobj := hS.obj hd hb
 unfold ObjC at hobj
 rw [if_neg (by omega), if_neg (by omega), if_neg (by omega), if_neg (by omega), if_neg (by omega), if_neg (by omega), if_pos hk] at hobj
 obtain ⟨v, vs, hi, hkv, hA⟩ := hobj
 have hi' := hle.imm _ _ hi
 have h2 : Γ.cell b (0 + 2) = some v := cell_of hi' rfl
 obtain ⟨aA, capA, cellsA, rfl, hcapA, hIA0, hLA0⟩ := hA
 have hcl := (hok.each _ d hd).d0.parl
 rw [htp]
 refine Spc.body2 Tryz.func44 rfl Tryz.ntmps44 rfl ?_
 refine hz_ ?_
 (refine WL.alloc tab_ok rfl rfl ?_; intro b4)
 refine hz_ ?_
 refine WL.re' (H' := GHp pg pq tv ge gc Ht ((b4, cel [.int .i64 0, .string eS, .string eS, .int .i64 0, .int .i64 0, .int .i64 0, .bool false, nilS, nilS, nilS] 46) :: F)) sn_ ?_
 refine WL.call rfl Tryz.call29 rfl rfl (by exact (num_kv (F := (b4, cel [.int .i64 0, .string eS, .string eS, .int .i64 0, .int .i64 0, .int .i64 0, .bool false, nilS, nilS, nilS] 46) :: F) ih hle hG hkv hm)) ?_
 rintro _ Γ1 _ hle1 ⟨tv1, Ht1, ge1, gc1, rfl, hG1, rfl⟩
 have hle01 := hle.trans hle1
 have h3 : Γ1.cell b (0 + 3) = some (.slice aA d.pars.length capA) := cell_of (hle01.imm _ _ hi) rfl
 refine hz_ ?_
 (refine WL.alloc tab_ok rfl rfl ?_; intro b23)
 refine hz_ ?_
 refine WC.loopE (fun m R' Γ' H' => ∃ k vc cells Hd tv' Ht' ge' gc', R' = [(0, .pointer (some ⟨pg, 0, none⟩)), (4, .pointer (some ⟨b4, 0, none⟩)), (23, .pointer (some ⟨b23, 0, none⟩)), (194, .slice aA d.pars.length capA), (195, .int .i64 (d.pars.length : Int)), (196, .int .i64 ((k : Nat) : Int))] ∧ m = d.pars.length - k ∧ k ≤ d.pars.length ∧ Γ1.le Γ' ∧
   Ow 1 vc k cells Hd ∧ LisC NumC (numsP (numNd l ds f) (numOf (numNd l ds f) S d.of).1 (d.pars.take k)).2 cells ∧ GR Γ' ds B (numsP (numNd l ds f) (numOf (numNd l ds f) S d.of).1 (d.pars.take k)).1 tv' Ht' ge' ∧
   H' = GHp pg pq tv' ge' gc' Ht' ((b23, cel [.int .i64 15, .string eS, .string eS, .int .i64 0, .int .i64 (numOf (numNd l ds f) S d.of).2, .int .i64 0, .bool false, nilS, vc, nilS] 46) :: (b4, cel [.int .i64 0, .string eS, .string eS, .int .i64 0, .int .i64 0, .int .i64 0, .bool false, nilS, nilS, nilS] 46) :: (Hd ++ F)))
  ⟨0, nilS, [], [], tv1, Ht1, ge1, gc1, rfl, rfl, Nat.zero_le _, Env.le.rfl' _, Ow.nil, rfl, hG1, rfl⟩ sr_ sn_ ?_
 rintro m R' Γ2 H' ⟨k, vc, cells, Hd, tv2, Ht2, ge2, gc2, rfl, rfl, hkl, hle2, how, hL, hG2, rfl⟩
 obtain ⟨a9, c9, rfl⟩ := Ow.shape how
 rcases Nat.lt_or_ge k d.pars.length with hlt | hge
 case inr =>
  have ek : k = d.pars.length := by omega
  subst ek
  rw [List.take_length] at hL hG2
  refine hz_ ?_
  refine WC.condF rfl (decide_eq_false (by omega)) ?_
  refine hz_ ?_
  refine WE.keep how tk_ (fun Γ4 hle4 him => ?_)
  refine WE.drop (b := b23) pk_ ?_
  unfold recT
  rw [if_neg (by omega), if_neg (by omega), if_neg (by omega), if_neg (by omega), if_pos hk]
  have hpl : (numsP (numNd l ds f) (numOf (numNd l ds f) S d.of).1 d.pars).2.length = d.pars.length := numsP_len _ _ _
  have him' : Im Γ4 (.slice a9 d.pars.length c9) (numsP (numNd l ds f) (numOf (numNd l ds f) S d.of).1 d.pars).2.length cells := by rw [hpl]; exact him
  have hAr := Im.arr him' hL
  rw [hpl] at him'
  exact end_c tab_ok rfl rfl rfl rfl pk_ rfl (hle1.trans (hle2.trans hle4)) ⟨_, tv2, Ht2, ge2, gc2, rfl, ⟨nilS, .slice a9 d.pars.length c9, nilS, rfl, arrN, hAr, arrN⟩, hG2.mono hle4, rfl⟩
 obtain ⟨x, hx⟩ : ∃ x, d.pars[k]? = some x := ⟨_, List.getElem?_eq_getElem hlt⟩
 have hxl : d.pars.take (k + 1) = d.pars.take k ++ [x] := by rw [List.take_add_one, hx]; rfl
 obtain ⟨bb, oo, cc, rfl, ⟨vx, rfl, hkx⟩, hc⟩ := elemA hIA0 hLA0 (fun _ _ ⟨_, h, _⟩ => by rw [h]; rfl) (w := 1) (by decide) hx
 have hle02 := hle01.trans hle2
 have hc0 := hle02.cell hc.1
 have hwi : IntKind.i64.wrap (((k : Nat) : Int) + 1) = ((k + 1 : Nat) : Int) := by rw [w_i64 (by omega) (by omega)]; omega
 have hm2 : missN ds (numsP (numNd l ds f) (numOf (numNd l ds f) S d.of).1 (d.pars.take k)).1.seen ≤ f := Nat.le_trans (missN_le (fun y hy => numsP_sub (numNd_sub f) _ _ y (numOf_sub (numNd_sub f) _ _ y hy))) hm
 refine hz_ ?_
 refine WC.condT rfl tr_ ?_
 refine hz_ ?_
 refine WC.draw 8 (.take 0 (.take 1 (.take 2 (.take 3 (.one 4 (.one 5 (.one 6 (.take 7 (.one 8 .done))))))))) ((b23, cel [.int .i64 15, .string eS, .string eS, .int .i64 0, .int .i64 (numOf (numNd l ds f) S d.of).2, .int .i64 0, .bool false, nilS, .slice a9 k c9, nilS] 46) :: []) mixed hsb_ (by decide +kernel) ?_
 refine jz_ ?_
 refine WL.re' (H' := GHp pg pq tv2 ge2 gc2 Ht2 ((b23, cel [.int .i64 15, .string eS, .string eS, .int .i64 0, .int .i64 (numOf (numNd l ds f) S d.of).2, .int .i64 0, .bool false, nilS, .slice a9 k c9, nilS] 46) :: (b4, cel [.int .i64 0, .string eS, .string eS, .int .i64 0, .int .i64 0, .int .i64 0, .bool false, nilS, nilS, nilS] 46) :: (Hd ++ F))) sn_ ?_
 refine WL.call rfl Tryz.call29 rfl rfl (by exact (num_kv ih hle02 hG2 hkx hm2)) ?_
 rintro _ Γ3 _ hle3 ⟨tv3, Ht3, ge3, gc3, rfl, hG3, rfl⟩
 refine jz_ ?_
 (refine WL.lit tab_ok rfl rfl rfl rfl rfl rfl rfl spi_ rfl ?_; intro bq)
 refine jz_ ?_
 refine WL.append tab_ok rfl rfl rfl rfl rfl rfl rfl rfl how tk_ ((Ow.lit (s := 1) (b := bq) (k := 1) (l := [.int .i64 (numOf (numNd l ds f) (numsP (numNd l ds f) (numOf (numNd l ds f) S d.of).1 (d.pars.take k)).1 x).2]) (T := 3) rfl).src tab_ok rfl t1_ (by simp [Value.oneCell'])) (by omega) (by omega) (fun v5 Hs5 how5 => ?_)
 obtain ⟨a5, c5, rfl⟩ := Ow.shape how5
 refine jz_ ?_
 refine hz_ ?_
 rw [hwi]
 exact WE.again ⟨k + 1, .slice a5 (k + 1) c5, _, Hs5, tv3, Ht3, ge3, gc3, rfl, rfl, hlt, hle2.trans hle3, how5, by rw [hxl, numsP_snoc]; exact LisC.append hL (LisC.one rfl), by rw [hxl, numsP_snoc]; exact hG3, rfl⟩ (by omega) sr_ sn_
theorem ty10 (ih : NmC Γ0 l ds B pg pq f) (hS : TS Γ0 l ds [] B es []) (hok : OkDs l ds) (hle : Γ0.le Γ) (hG : GR Γ ds B S tv Ht ge) (hd : ds[j]? = some d) (hm : missN ds S.seen ≤ f) (hk : d.kind = 10) (hb : B j 0 = some b) : Spc Tryz.prog 44 #[.pointer (some ⟨pg, 0, none⟩), pkey (tyP d.kind) b] Γ (GHp pg pq tv ge gc Ht F) (TyP pg pq ds B F (recT l ds (numNd l ds f) S j 0 d)) := by
 have htp : tyP d.kind = 212 := by rw [hk]; rfl
 have hobj := hS.obj hd hb
 unfold ObjC at hobj
 rw [if_neg (by omega), if_pos hk] at hobj
 obtain ⟨vs, hi, hA⟩ := hobj
 have hi' := hle.imm _ _ hi
 obtain ⟨aA, capA, cellsA, rfl, hcapA, hIA0, hLA0⟩ := hA
 have h2 : Γ.cell b (0 + 2) = some (.string d.name) := cell_of hi' rfl
 have h3 : Γ.cell b (0 + 3) = some (.string (kindS d.which)) := cell_of hi' rfl
 have h4 : Γ.cell b (0 + 4) = some (.slice aA d.mems.length capA) := cell_of hi' rfl
 have h5 : Γ.cell b (0 + 5) = some (.bool d.inc) := cell_of hi' rfl
 have hcl := (hok.each _ d hd).d0.meml
 rw [htp]
 refine Spc.body2 Tryz.func44 rfl Tryz.ntmps44 rfl ?_
 refine hz_ ?_
 (refine WL.alloc tab_ok rfl rfl ?_; intro b4)
 refine hz_ ?_
 refine WC.draw 14 (.take 0 (.take 1 (.take 2 (.take 3 (.take 4 (.take 5 (.take 6 (.take 7 (.take 8 (.take 9 (.take 10 (.take 11 (.take 12 (.one 13 (.one 14 .done))))))))))))))) ([] : List Blk) mixed hsb_ (by decide +kernel) ?_
 refine jz_ ?_
 (refine WL.alloc tab_ok rfl rfl ?_; intro b27)
 refine jz_ ?_
 refine hz_ ?_
 refine WC.cutM (fun R' Γ' H' => R' = [(0, .pointer (some ⟨pg, 0, none⟩)), (4, .pointer (some ⟨b4, 0, none⟩)), (26, .pointer (some ⟨b, 0, none⟩)), (27, .pointer (some ⟨b27, 0, none⟩))] ∧ Γ = Γ' ∧ H' = GHp pg pq tv ge gc Ht ((b27, cel [.int .i64 10, .string d.name, .string (kindS d.which), .int .i64 (if d.inc then 0 else d.size), .int .i64 (-1), .int .i64 0, .bool d.inc, nilS, nilS, nilS] 46) :: (b4, cel [.int .i64 0, .string eS, .string eS, .int .i64 0, .int .i64 0, .int .i64 0, .bool false, nilS, nilS, nilS] 46) :: F)) ?_ ?_
 ·cases hc : d.inc with
  | true =>
   refine hz_ ?_
   exact WE.mid ⟨rfl, rfl, rfl⟩ sr_ sn_
  | false =>
   refine hz_ ?_
   have hz0 : Γ.cell b 0 = some (.int .i64 d.size) := by
    have := cell_of (o := 0) hi' rfl
    rw [hc] at this
    exact this
   refine WL.call rfl Tryz.call73 rfl rfl (by exact (sizeC_ok (.inl hz0))) ?_
   rintro _ _ _ - ⟨rfl, rfl, rfl⟩
   refine hz_ ?_
   exact WE.mid ⟨rfl, rfl, rfl⟩ sr_ sn_
 rintro _ _ _ ⟨rfl, rfl, rfl⟩
 refine hz_ ?_
 refine WC.loopE (fun m R' Γ' H' => ∃ k vc cells Hd tv' Ht' ge' gc', R' = [(0, .pointer (some ⟨pg, 0, none⟩)), (4, .pointer (some ⟨b4, 0, none⟩)), (27, .pointer (some ⟨b27, 0, none⟩)), (239, .slice aA d.mems.length capA), (240, .int .i64 (d.mems.length : Int)), (241, .int .i64 ((k : Nat) : Int))] ∧ m = d.mems.length - k ∧ k ≤ d.mems.length ∧ Γ.le Γ' ∧
   Ow 3 vc k cells Hd ∧ LisC MemC (numsM (numNd l ds f) S (d.mems.take k)).2 cells ∧ GR Γ' ds B (numsM (numNd l ds f) S (d.mems.take k)).1 tv' Ht' ge' ∧
   H' = GHp pg pq tv' ge' gc' Ht' ((b27, cel [.int .i64 10, .string d.name, .string (kindS d.which), .int .i64 (if d.inc then 0 else d.size), .int .i64 (-1), .int .i64 0, .bool d.inc, vc, nilS, nilS] 46) :: (b4, cel [.int .i64 0, .string eS, .string eS, .int .i64 0, .int .i64 0, .int .i64 0, .bool false, nilS, nilS, nilS] 46) :: (Hd ++ F)))
  ⟨0, nilS, [], [], tv, Ht, ge, gc, rfl, rfl, Nat.zero_le _, Env.le.rfl' _, Ow.nil, rfl, hG, rfl⟩ sr_ sn_ ?_
 rintro m R' Γ2 H' ⟨k, vc, cells, Hd, tv2, Ht2, ge2, gc2, rfl, rfl, hkl, hle2, how, hL, hG2, rfl⟩
 obtain ⟨a9, c9, rfl⟩ := Ow.shape how
 rcases Nat.lt_or_ge k d.mems.length with hlt | hge
 case inr =>
  have ek : k = d.mems.length := by omega
  subst ek
  rw [List.take_length] at hL hG2
  refine hz_ ?_
  refine WC.condF rfl (decide_eq_false (by omega)) ?_
  refine hz_ ?_
  refine WE.keep how tk_ (fun Γ4 hle4 him => ?_)
  refine WE.drop (b := b27) pk_ ?_
  unfold recT
  rw [if_neg (by omega), if_neg (by omega), if_neg (by omega), if_neg (by omega), if_neg (by omega), if_pos hk]
  have hpl : (numsM (numNd l ds f) S d.mems).2.length = d.mems.length := numsM_len _ _ _
  have him' : Im Γ4 (.slice a9 d.mems.length c9) (numsM (numNd l ds f) S d.mems).2.length cells := by rw [hpl]; exact him
  have hAr := Im.arr him' hL
  exact end_c tab_ok rfl rfl rfl rfl pk_ rfl (hle2.trans hle4) ⟨_, tv2, Ht2, ge2, gc2, rfl, ⟨.slice a9 d.mems.length c9, nilS, nilS, rfl, hAr, arrN, arrN⟩, hG2.mono hle4, rfl⟩
 obtain ⟨x, hx⟩ : ∃ x, d.mems[k]? = some x := ⟨_, List.getElem?_eq_getElem hlt⟩
 have hxl : d.mems.take (k + 1) = d.mems.take k ++ [x] := by rw [List.take_add_one, hx]; rfl
 obtain ⟨bb, oo, cc, rfl, ⟨bx, vx, rfl, hbx, hkx⟩, hc⟩ := elemA hIA0 hLA0 (fun _ _ ⟨_, _, h, _⟩ => by rw [h]; rfl) (w := 1) (by decide) hx
 have hle02 := hle.trans hle2
 have hc0 := hle02.cell hc.1
 have hbx2 := hle02.imm _ _ hbx
 have hx0 : Γ2.cell bx (0 + 0) = some (.string x.name) := cell_of hbx2 rfl
 have hx1 : Γ2.cell bx (0 + 1) = some vx := cell_of hbx2 rfl
 have hx2 : Γ2.cell bx (0 + 2) = some (.int .i64 x.off) := cell_of hbx2 rfl
 have hwi : IntKind.i64.wrap (((k : Nat) : Int) + 1) = ((k + 1 : Nat) : Int) := by rw [w_i64 (by omega) (by omega)]; omega
 have hm2 : missN ds (numsM (numNd l ds f) S (d.mems.take k)).1.seen ≤ f := Nat.le_trans (missN_le (fun y hy => numsM_sub (numNd_sub f) _ _ y hy)) hm
 refine hz_ ?_
 refine WC.condT rfl tr_ ?_
 refine hz_ ?_
 refine WC.draw 20 (.take 0 (.take 1 (.take 2 (.take 3 (.take 4 (.take 5 (.take 6 (.take 7 (.take 8 (.take 9 (.take 10 (.take 11 (.take 12 (.take 13 (.take 14 (.one 15 (.take 16 (.one 17 (.one 18 (.take 19 (.one 20 .done))))))))))))))))))))) ((b27, cel [.int .i64 10, .string d.name, .string (kindS d.which), .int .i64 (if d.inc then 0 else d.size), .int .i64 (-1), .int .i64 0, .bool d.inc, .slice a9 k c9, nilS, nilS] 46) :: []) mixed hsb_ (by decide +kernel) ?_
 refine jz_ ?_
 refine WL.re' (H' := GHp pg pq tv2 ge2 gc2 Ht2 ((b27, cel [.int .i64 10, .string d.name, .string (kindS d.which), .int .i64 (if d.inc then 0 else d.size), .int .i64 (-1), .int .i64 0, .bool d.inc, .slice a9 k c9, nilS, nilS] 46) :: (b4, cel [.int .i64 0, .string eS, .string eS, .int .i64 0, .int .i64 0, .int .i64 0, .bool false, nilS, nilS, nilS] 46) :: (Hd ++ F))) sn_ ?_
 refine WL.call rfl Tryz.call29 rfl rfl (by exact (num_kv ih hle02 hG2 hkx hm2)) ?_
 rintro _ Γ3 _ hle3 ⟨tv3, Ht3, ge3, gc3, rfl, hG3, rfl⟩
 refine jz_ ?_
 (refine WL.lit tab_ok rfl rfl rfl rfl rfl rfl rfl spi_ rfl ?_; intro bq)
 refine jz_ ?_
 refine WL.append tab_ok rfl rfl rfl rfl rfl rfl rfl rfl how tk_ ((Ow.lit (s := 3) (b := bq) (k := 1) (l := [.string x.name, .int .i64 x.off, .int .i64 (numOf (numNd l ds f) (numsM (numNd l ds f) S (d.mems.take k)).1 x.of).2]) (T := 93) rfl).src tab_ok rfl t1_ (by simp [Value.oneCell'])) (by omega) (by omega) (fun v5 Hs5 how5 => ?_)
 obtain ⟨a5, c5, rfl⟩ := Ow.shape how5
 refine jz_ ?_
 refine hz_ ?_
 rw [hwi]
 exact WE.again ⟨k + 1, .slice a5 (k + 1) c5, _, Hs5, tv3, Ht3, ge3, gc3, rfl, rfl, hlt, hle2.trans hle3, how5, by rw [hxl, numsM_snoc]; exact LisC.append hL (LisC.one rfl), by rw [hxl, numsM_snoc]; exact hG3, rfl⟩ (by omega) sr_ sn_
end
end Go.Proofs.YtbgkbgoonjkghaaGreatDoor
namespace Go.Sl
open Go
section
variable {P : Program} {ops : Array Oper} {Q : Post} {n : Nat} {D : List Deferred} {R : Regs} {Γ : Env} {H : List Blk} {rest : List Oper}
variable {d : Nat} {ty : TypeId} {pos : String} {aft : Array Edge}
theorem WL.assertNo {T : Tab} (hT : TabOk P T) {x : Operand} {xt t tp te : TypeId} {u : Value} {i : TI} (hx : ev R x = some (.iface tp u)) (hi : T.get t = some i) (hp : i.desc = .pointer te) (hne : Nat.beq tp t = false)
  (hd : Nat.blt d n = true) (k : WL P ops Q n D rest ((d, .tuple #[i.zero, .bool false]) :: R) Γ H) : WL P ops Q n D (⟨some d, .typeAssert x xt t true, ty, pos, aft, none⟩ :: rest) R Γ H :=
 WL.pure hT (by simp only [evalP, hx, hi, hp, hne, cond_false, cond_true]) hd k
theorem ptrOk_of {T : Tab} (hT : TabOk P T) {tp te : TypeId} {j : TI} (h1 : T.desc tp = some (.pointer te)) (hc : ((P.info? tp).map (·.comparable)) = some true) (hj : T.get te = some j) (hn : Nat.beq j.size 0 = false) : PtrOk P tp := by
 cases hi : P.info? tp with
 | none => rw [hi] at hc; cases hc
 | some i =>
  rw [hi] at hc
  obtain ⟨i2, h2, h3⟩ := Tab.info_get hT hj
  refine ⟨te, i, i2, Tab.desc_ok hT h1, hi, by simpa using hc, h2, ?_⟩
  rw [h3]; intro e; rw [e] at hn; cases hn
end
end Go.Sl
namespace Go.Proofs.YtbgkbgoonjkghaaGreatDoor
open Go Go.Sl
set_option maxRecDepth 10000
set_option maxHeartbeats 40000000
theorem LisC.set {α : Type} {P : α → List Value → Prop} {w : Nat} (hw : ∀ x c, P x c → c.length = w) : ∀ {xs : List α} {cs : List Value} {i : Nat}, LisC P xs cs → i < xs.length → ∃ p c q, cs = p ++ (c ++ q) ∧ p.length = i * w ∧ c.length = w ∧ ∀ y c', P y c' → LisC P (xs.set i y) (p ++ (c' ++ q))
 | [], _, _, _, h => by simp at h
 | x :: xs, cs, 0, ⟨c1, c2, h1, h2, h3⟩, _ => ⟨[], c1, c2, h1, by simp, hw _ _ h2, fun y c' hy => ⟨c', c2, rfl, hy, h3⟩⟩
 | x :: xs, cs, i + 1, ⟨c1, c2, h1, h2, h3⟩, h => by
  obtain ⟨p, c, q, e1, e2, e3, e4⟩ := LisC.set hw (i := i) h3 (by simpa using h)
  refine ⟨c1 ++ p, c, q, by rw [h1, e1, List.append_assoc], by rw [List.length_append, hw _ _ h2, e2, Nat.succ_mul]; omega, e3, fun y c' hy => ?_⟩
  exact ⟨c1, p ++ (c' ++ q), by rw [List.append_assoc], h2, e4 y c' hy⟩
theorem ow_cap {s n k cap : Nat} {v : Value} {l : List Value} {Hs : List Blk} {a : Option Addr} (h : Ow s v n l Hs) (hv : v = .slice a k cap) : n ≤ cap := by
 cases h with
 | nil => exact Nat.zero_le _
 | row h1 => injection hv with _ _ e3; omega
theorem tyP_ind {p : TypeId → Prop} (h1 : p 190) (h2 : p 195) (h3 : p 197) (h4 : p 199) (h5 : p 201) (h6 : p 205) (h7 : p 203) (h8 : p 207) (h9 : p 240) (h10 : p 212) (h11 : p 184) (h12 : p 248) (h13 : p 230) (h14 : p 233) (h15 : p 243) (h16 : p 250) (k : Int) : p (tyP k) := by
 by_cases e1 : k = 1
 ·rw [e1]; exact h1
 by_cases e2 : k = 2
 ·rw [e2]; exact h2
 by_cases e3 : k = 3
 ·rw [e3]; exact h3
 by_cases e4 : k = 4
 ·rw [e4]; exact h4
 by_cases e5 : k = 5
 ·rw [e5]; exact h5
 by_cases e6 : k = 6
 ·rw [e6]; exact h6
 by_cases e7 : k = 7
 ·rw [e7]; exact h7
 by_cases e8 : k = 8
 ·rw [e8]; exact h8
 by_cases e9 : k = 9
 ·rw [e9]; exact h9
 by_cases e10 : k = 10
 ·rw [e10]; exact h10
 by_cases e11 : k = 11
 ·rw [e11]; exact h11
 by_cases e12 : k = 12
 ·rw [e12]; exact h12
 by_cases e13 : k = 13
 ·rw [e13]; exact h13
 by_cases e14 : k = 14
 ·rw [e14]; exact h14
 by_cases e15 : k = 15
 ·rw [e15]; exact h15
 unfold tyP
 rw [if_neg e1, if_neg e2, if_neg e3, if_neg e4, if_neg e5, if_neg e6, if_neg e7, if_neg e8, if_neg e9, if_neg e10, if_neg e11, if_neg e12, if_neg e13, if_neg e14, if_neg e15]
 exact h16
theorem tyP_void (k : Int) : Nat.beq (tyP k) 134 = false := tyP_ind (p := fun t => Nat.beq t 134 = false) rfl rfl rfl rfl rfl rfl rfl rfl rfl rfl rfl rfl rfl rfl rfl rfl k
theorem tyP_dots (k : Int) : Nat.beq (tyP k) 135 = false := tyP_ind (p := fun t => Nat.beq t 135 = false) rfl rfl rfl rfl rfl rfl rfl rfl rfl rfl rfl rfl rfl rfl rfl rfl k
theorem tyP_ptr (k : Int) : PtrOk Tryz.prog (tyP k) := by
 refine tyP_ind (p := fun t => PtrOk Tryz.prog t) ?_ ?_ ?_ ?_ ?_ ?_ ?_ ?_ ?_ ?_ ?_ ?_ ?_ ?_ ?_ ?_ k
 ·exact ptrOk_of tab_ok (tp := 190) (te := 194) (by rfl) (by kernel_rfl) (by rfl) (by rfl)
 ·exact ptrOk_of tab_ok (tp := 195) (te := 196) (by rfl) (by kernel_rfl) (by rfl) (by rfl)
 ·exact ptrOk_of tab_ok (tp := 197) (te := 198) (by rfl) (by kernel_rfl) (by rfl) (by rfl)
 ·exact ptrOk_of tab_ok (tp := 199) (te := 200) (by rfl) (by kernel_rfl) (by rfl) (by rfl)
 ·exact ptrOk_of tab_ok (tp := 201) (te := 202) (by rfl) (by kernel_rfl) (by rfl) (by rfl)
 ·exact ptrOk_of tab_ok (tp := 205) (te := 206) (by rfl) (by kernel_rfl) (by rfl) (by rfl)
 ·exact ptrOk_of tab_ok (tp := 203) (te := 204) (by rfl) (by kernel_rfl) (by rfl) (by rfl)
 ·exact ptrOk_of tab_ok (tp := 207) (te := 208) (by rfl) (by kernel_rfl) (by rfl) (by rfl)
 ·exact ptrOk_of tab_ok (tp := 240) (te := 242) (by rfl) (by kernel_rfl) (by rfl) (by rfl)
 ·exact ptrOk_of tab_ok (tp := 212) (te := 215) (by rfl) (by kernel_rfl) (by rfl) (by rfl)
 ·exact ptrOk_of tab_ok (tp := 184) (te := 186) (by rfl) (by kernel_rfl) (by rfl) (by rfl)
 ·exact ptrOk_of tab_ok (tp := 248) (te := 249) (by rfl) (by kernel_rfl) (by rfl) (by rfl)
 ·exact ptrOk_of tab_ok (tp := 230) (te := 232) (by rfl) (by kernel_rfl) (by rfl) (by rfl)
 ·exact ptrOk_of tab_ok (tp := 233) (te := 236) (by rfl) (by kernel_rfl) (by rfl) (by rfl)
 ·exact ptrOk_of tab_ok (tp := 243) (te := 246) (by rfl) (by kernel_rfl) (by rfl) (by rfl)
 ·exact ptrOk_of tab_ok (tp := 250) (te := 251) (by rfl) (by kernel_rfl) (by rfl) (by rfl)
section
variable {Γ Γ0 : Env} {l : Lay} {ds : List Df} {B : BM} {es : List MapEntry} {pg pq f : Nat} {F : List Blk} {S : TSt} {tv : Value} {Ht : List Blk} {ge : List MapEntry} {gc j q b : Nat} {d : Df}
def GrowT (g : NumF) : Prop := ∀ S x, S.told.length ≤ (g S x).1.told.length
theorem numOf_len {g : NumF} (hg : GrowT g) (S : TSt) (n : Int) : S.told.length ≤ (numOf g S n).1.told.length := by
 unfold numOf
 split
 ·exact Nat.le_refl _
 ·split
  ·exact Nat.le_refl _
  ·exact hg S _
theorem numsP_lenT {g : NumF} (hg : GrowT g) : ∀ (ps : List Int) (S : TSt), S.told.length ≤ (numsP g S ps).1.told.length
 | [], _ => Nat.le_refl _
 | p :: ps, S => Nat.le_trans (numOf_len hg S p) (numsP_lenT hg ps _)
theorem numsM_lenT {g : NumF} (hg : GrowT g) : ∀ (ps : List Mem) (S : TSt), S.told.length ≤ (numsM g S ps).1.told.length
 | [], _ => Nat.le_refl _
 | p :: ps, S => Nat.le_trans (numOf_len hg S p.of) (numsM_lenT hg ps _)
theorem recT_len {g : NumF} (hg : GrowT g) (S : TSt) (j q : Nat) (d : Df) : S.told.length ≤ (recT l ds g S j q d).1.told.length := by
 unfold recT
 split
 ·exact numOf_len hg S _
 split
 ·exact numOf_len hg S _
 split
 ·exact numOf_len hg S _
 split
 ·simp only
  split
  ·exact hg S _
  ·exact numOf_len hg S _
 split
 ·exact Nat.le_trans (numOf_len hg S _) (numsP_lenT hg _ _)
 split
 ·exact numsM_lenT hg _ _
 split
 ·exact Nat.le_refl _
 split
 ·exact Nat.le_refl _
 ·exact Nat.le_refl _
theorem numNd_len : ∀ f : Nat, GrowT (numNd l ds f)
 | 0 => fun S x => Nat.le_refl _
 | f + 1 => fun S x => by
  unfold numNd
  cases ixOf x S.seen 0 with
  | some i => exact Nat.le_refl _
  | none =>
   cases ds[x.1]? with
   | none => exact Nat.le_refl _
   | some d =>
    have := recT_len (l := l) (ds := ds) (numNd_len f) ⟨S.seen ++ [x], S.told ++ [Ty.nil]⟩ x.1 x.2 d
    simp only [List.length_append, List.length_set] at this ⊢
    omega
theorem ty_all (ih : NmC Γ0 l ds B pg pq f) (hS : TS Γ0 l ds [] B es []) (hok : OkDs l ds) (hle : Γ0.le Γ) (hG : GR Γ ds B S tv Ht ge) (hd : ds[j]? = some d) (hm : missN ds S.seen ≤ f) (hb : B j q = some b) :
  Spc Tryz.prog 44 #[.pointer (some ⟨pg, 0, none⟩), pkey (tyP d.kind) b] Γ (GHp pg pq tv ge gc Ht F) (TyP pg pq ds B F (recT l ds (numNd l ds f) S j q d)) := by
 have ho := hok.each j d hd
 have h1 := ho.k1
 have h16 := ho.k16
 by_cases e11 : d.kind = 11
 ·refine ty11 ih hS hok hle hG hd hm e11 ?_
  cases q with
  | zero =>
   have hobj := hS.obj hd hb
   unfold ObjC at hobj
   rw [if_neg (by omega), if_neg (by omega), if_pos e11] at hobj
   exact hobj
  | succ q =>
   obtain ⟨d', hd', -, hA'⟩ := hS.dir _ _ _ hb
   rw [hd] at hd'; injection hd' with hd'; subst hd'
   exact hA'
 have hq : q = 0 := by
  cases q with
  | zero => rfl
  | succ q =>
   obtain ⟨d', hd', hk', -⟩ := hS.dir _ _ _ hb
   rw [hd] at hd'; injection hd' with hd'; subst hd'
   exact absurd hk' e11
 subst hq
 by_cases e1 : d.kind = 1
 ·exact ty1 ih hS hok hle hG hd hm e1 hb
 by_cases e2 : d.kind = 2
 ·exact ty2 ih hS hok hle hG hd hm e2 hb
 by_cases e3 : d.kind = 3
 ·exact ty3 ih hS hok hle hG hd hm e3 hb
 by_cases e4 : d.kind = 4
 ·exact ty4 ih hS hok hle hG hd hm e4 hb
 by_cases e5 : d.kind = 5
 ·exact ty5 ih hS hok hle hG hd hm e5 hb
 by_cases e6 : d.kind = 6
 ·exact ty6 ih hS hok hle hG hd hm e6 hb
 by_cases e7 : d.kind = 7
 ·exact ty7 ih hS hok hle hG hd hm e7 hb
 by_cases e8 : d.kind = 8
 ·exact ty8 ih hS hok hle hG hd hm e8 hb
 by_cases e9 : d.kind = 9
 ·exact ty9 ih hS hok hle hG hd hm e9 hb
 by_cases e10 : d.kind = 10
 ·exact ty10 ih hS hok hle hG hd hm e10 hb
 by_cases e12 : d.kind = 12
 ·exact ty12 ih hS hok hle hG hd hm e12 hb
 by_cases e13 : d.kind = 13
 ·exact ty13 ih hS hok hle hG hd hm e13 hb
 by_cases e14 : d.kind = 14
 ·exact ty14 ih hS hok hle hG hd hm e14 hb
 by_cases e15 : d.kind = 15
 ·exact ty15 ih hS hok hle hG hd hm e15 hb
 ·exact ty16 ih hS hok hle hG hd hm (by omega) hb
theorem nm_step (ih : ∀ m, m + 1 = f → NmC Γ0 l ds B pg pq m) (hS : TS Γ0 l ds [] B es []) (hok : OkDs l ds) : NmC Γ0 l ds B pg pq f := by
 intro Γ F S tv Ht ge gc x d b hle hG hd hb hm
 have hpf := pfind_seen hS hd hb S.seen 0 hG.has
 have hkb : KeyB Γ b := by
  obtain ⟨c, t, h⟩ := hS.key hb
  exact ⟨c, t, hle.imm _ _ h⟩
 have hkl : ∀ y ∈ SeenL ds B S.seen 0, KeyB Γ y.2.1 := by
  have : ∀ (L : List Nd) (i : Nat), (∀ y ∈ L, ∃ c, B y.1 y.2 = some c) → ∀ y ∈ SeenL ds B L i, KeyB Γ y.2.1 := by
   intro L
   induction L with
   | nil => intro i _ y hy; cases hy
   | cons z L ihL =>
    intro i h y hy
    unfold SeenL at hy
    rcases List.mem_cons.1 hy with rfl | hy
    ·obtain ⟨c, hc⟩ := h z (List.mem_cons_self ..)
     rw [hc]
     obtain ⟨c', t, h⟩ := hS.key hc
     exact ⟨c', t, hle.imm _ _ h⟩
    ·exact ihL (i + 1) (fun y hy => h y (List.mem_cons_of_mem _ hy)) y hy
  exact this _ _ hG.has
 have hlen := hG.len
 have hfew := hG.few
 refine Spc.body2 Tryz.func29 rfl Tryz.ntmps29 rfl ?_
 refine hz_ ?_
 refine WL.assertNo tab_ok rfl rfl rfl (tyP_void _) rfl ?_
 refine hz_ ?_
 refine WL.assertNo tab_ok rfl rfl rfl (tyP_dots _) rfl ?_
 refine hz_ ?_
 cases hx : ixOf x S.seen 0 with
 | some i =>
  rw [hx] at hpf
  refine WL.lookupP tab_ok rfl rfl rfl rfl rfl (.inr ⟨_, pk_⟩) (tyP_ptr _) hkb hG.map hkl (v := .tuple #[.int .i64 ((i : Nat) : Int), .bool true]) (by rw [hpf]; rfl) rfl ?_
  refine hz_ ?_
  have e : numNd l ds f S x = (S, (i : Int)) := by
   cases f with
   | zero => unfold numNd; rw [hx]
   | succ f => unfold numNd; rw [hx]
  rw [e]
  exact end_1 rfl rfl (Env.le.rfl' _) ⟨tv, Ht, ge, gc, rfl, hG, rfl⟩
 | none =>
  rw [hx] at hpf
  refine WL.lookupP tab_ok rfl rfl rfl rfl rfl (.inr ⟨_, pk_⟩) (tyP_ptr _) hkb hG.map hkl (v := .tuple #[.int .i64 0, .bool false]) (by rw [hpf]; rfl) rfl ?_
  obtain ⟨cells, how, hL⟩ := hG.told
  obtain ⟨a9, c9, rfl⟩ := Ow.shape how
  refine hz_ ?_
  refine WL.mapNewP tab_ok rfl rfl rfl rfl rfl pk_ (tyP_ptr _) hkb hG.map hkl (by rw [hpf]; rfl) ?_
  refine hz_ ?_
  (refine WL.lit tab_ok rfl rfl rfl rfl rfl rfl rfl spi_ rfl ?_; intro bq)
  refine hz_ ?_
  refine WL.append tab_ok rfl rfl rfl rfl rfl rfl rfl rfl how tk_ ((Ow.lit (s := 10) (b := bq) (k := 1) (l := [.int .i64 0, .string eS, .string eS, .int .i64 0, .int .i64 0, .int .i64 0, .bool false, nilS, nilS, nilS]) (T := 46) rfl).src tab_ok rfl t1_ (TyC.one (Γ := Γ) TyC.nil)) (by omega) (by omega) (fun v5 Hs5 how5 => ?_)
  obtain ⟨a5, c5, rfl⟩ := Ow.shape how5
  refine hz_ ?_
  have hxj := (List.getElem?_eq_some_iff.1 hd).1
  have hxq : x.2 < 5 := by
   have hcl := (hok.each _ d hd).d0.cntl
   cases e2 : x.2 with
   | zero => omega
   | succ q =>
    rw [e2] at hb
    obtain ⟨d', hd', -, _, _, _, hc, -⟩ := hS.dir _ _ _ hb
    rw [hd] at hd'; injection hd' with hd'; subst hd'
    have := (List.getElem?_eq_some_iff.1 hc).1
    omega
  have hms := missN_snoc (ixOf_none hx) hxj hxq
  obtain ⟨m, rfl⟩ : ∃ m, f = m + 1 := ⟨f - 1, by omega⟩
  have hG1 : GR Γ ds B ⟨S.seen ++ [x], S.told ++ [Ty.nil]⟩ (.slice a5 (S.told.length + 1) c5) Hs5 (ge ++ [MapEntry.mk (pkey (tyP d.kind) b) (.int .i64 (S.told.length : Int)) gc]) := by
   refine ⟨by simp only [List.length_append, List.length_singleton]; omega, fun y hy => ?_, ?_, ⟨_, by simp only [List.length_append, List.length_singleton]; exact how5, LisC.append hL (LisC.one TyC.nil)⟩, by simp only [List.length_append, List.length_singleton]; omega⟩
   ·rcases List.mem_append.1 hy with hy | hy
    ·exact hG.has y hy
    ·rw [List.mem_singleton.1 hy]; exact ⟨b, hb⟩
   ·have hp := hG.map.snoc (tp := tyP d.kind) (b := b) (c := gc) (v := .int .i64 (S.told.length : Int))
    rw [SeenL_snoc, hd, hb, Nat.zero_add, ← hlen]
    exact hp
  refine WL.re' (H' := GHp pg pq (.slice a5 (S.told.length + 1) c5) (ge ++ [MapEntry.mk (pkey (tyP d.kind) b) (.int .i64 (S.told.length : Int)) gc]) (gc + 1) Hs5 F) sn_ ?_
  refine WL.call rfl Tryz.call44 rfl rfl (by exact (ty_all (ih m rfl) hS hok hle hG1 hd (by simp only; omega) hb)) ?_
  rintro _ Γ2 _ hle2 ⟨c2, tv2, Ht2, ge2, gc2, rfl, hT2, hG2, rfl⟩
  have hrl := recT_len (l := l) (ds := ds) (numNd_len (l := l) (ds := ds) m) ⟨S.seen ++ [x], S.told ++ [Ty.nil]⟩ x.1 x.2 d
  simp only [List.length_append, List.length_singleton] at hrl
  have e : numNd l ds (m + 1) S x = (⟨(recT l ds (numNd l ds m) ⟨S.seen ++ [x], S.told ++ [Ty.nil]⟩ x.1 x.2 d).1.seen, (recT l ds (numNd l ds m) ⟨S.seen ++ [x], S.told ++ [Ty.nil]⟩ x.1 x.2 d).1.told.set S.seen.length (recT l ds (numNd l ds m) ⟨S.seen ++ [x], S.told ++ [Ty.nil]⟩ x.1 x.2 d).2⟩, (S.seen.length : Int)) := by
   rw [numNd, hx]
   simp only
   rw [hd]
  rw [e]
  generalize recT l ds (numNd l ds m) ⟨S.seen ++ [x], S.told ++ [Ty.nil]⟩ x.1 x.2 d = RR at hT2 hG2 hrl ⊢
  obtain ⟨S2, xt⟩ := RR
  simp only at hT2 hG2 hrl ⊢
  obtain ⟨g1, g2, g3, ⟨cells2, how2, hL2⟩, g5⟩ := hG2
  obtain ⟨a2, cc2, rfl⟩ := Ow.shape how2
  have hcap : 0 < cc2 := by have := ow_cap how2 rfl; omega
  obtain ⟨bs, sp, T3, fz3, rfl, hkc, hpl, hsl, hfz, rfl⟩ := ow_open how2 hcap
  obtain ⟨p0, c0, q0, rfl, hp0, hc0, hset⟩ := LisC.set (fun _ _ h => TyC.len h) hL2 (i := S.told.length) (by omega)
  have hT2' := hT2
  obtain ⟨vm, vp, vc, rfl, ⟨a6, c6, _, rfl, -⟩, ⟨a7, c7, _, rfl, -⟩, ⟨a8, c8, _, rfl, -⟩⟩ := hT2'
  refine hz_ ?_
  (refine WL.alloc tab_ok rfl rfl ?_; intro b8)
  refine hz_ ?_
  refine WC.draw 7 (.take 0 (.take 1 (.take 2 (.take 3 (.take 4 (.take 5 (.take 6 (.one 7 .done)))))))) ((pg, cel [.map (some pq), .slice (some ⟨bs, 0, none⟩) S2.told.length cc2] 84) :: (b8, cel [.int .i64 xt.kind, .string xt.name, .string xt.own, .int .i64 xt.size, .int .i64 xt.of, .int .i64 xt.count, .bool xt.inc, .slice a6 xt.mems.length c6, .slice a7 xt.pars.length c7, .slice a8 xt.cons.length c8] 46) :: []) mixed hsb_ (by decide +kernel) ?_
  refine jz_ ?_
  have ho : 0 + Int.toNat ((S.told.length : Nat) : Int) * 10 = p0.length := by rw [Int.toNat_natCast, hp0, Nat.zero_add]
  refine WL.stN (l' := p0 ++ ([.int .i64 xt.kind, .string xt.name, .string xt.own, .int .i64 xt.size, .int .i64 xt.of, .int .i64 xt.count, .bool xt.inc, .slice a6 xt.mems.length c6, .slice a7 xt.pars.length c7, .slice a8 xt.cons.length c8] ++ (q0 ++ sp))) tab_ok rfl rfl rfl pk_ hfz (by rw [ho]; show p0.length + 10 ≤ _; simp only [List.length_append, hc0]; omega) (by rw [ho, List.append_assoc, List.append_assoc]; exact setAll_mid (new := [.int .i64 xt.kind, .string xt.name, .string xt.own, .int .i64 xt.size, .int .i64 xt.of, .int .i64 xt.count, .bool xt.inc, .slice a6 xt.mems.length c6, .slice a7 xt.pars.length c7, .slice a8 xt.cons.length c8]) (by rw [hc0]; rfl)) rfl rfl ?_
  refine jz_ ?_
  refine hz_ ?_
  have hcl : ((p0 ++ (([.int .i64 xt.kind, .string xt.name, .string xt.own, .int .i64 xt.size, .int .i64 xt.of, .int .i64 xt.count, .bool xt.inc, .slice a6 xt.mems.length c6, .slice a7 xt.pars.length c7, .slice a8 xt.cons.length c8] : List Value) ++ q0)) ++ sp).length = ((p0 ++ (c0 ++ q0)) ++ sp).length := by simp only [List.length_append, hc0]; rfl
  have hcl2 : (p0 ++ (([.int .i64 xt.kind, .string xt.name, .string xt.own, .int .i64 xt.size, .int .i64 xt.of, .int .i64 xt.count, .bool xt.inc, .slice a6 xt.mems.length c6, .slice a7 xt.pars.length c7, .slice a8 xt.cons.length c8] : List Value) ++ q0)).length = (p0 ++ (c0 ++ q0)).length := by simp only [List.length_append, hc0]; rfl
  have hrow : Ow 10 (.slice (some ⟨bs, 0, none⟩) S2.told.length cc2) S2.told.length (p0 ++ (([.int .i64 xt.kind, .string xt.name, .string xt.own, .int .i64 xt.size, .int .i64 xt.of, .int .i64 xt.count, .bool xt.inc, .slice a6 xt.mems.length c6, .slice a7 xt.pars.length c7, .slice a8 xt.cons.length c8] : List Value) ++ q0)) [(bs, celF ((p0 ++ (([.int .i64 xt.kind, .string xt.name, .string xt.own, .int .i64 xt.size, .int .i64 xt.of, .int .i64 xt.count, .bool xt.inc, .slice a6 xt.mems.length c6, .slice a7 xt.pars.length c7, .slice a8 xt.cons.length c8] : List Value) ++ q0)) ++ sp) T3 fz3)] :=
   Ow.row hkc (by rw [hcl2]; exact hpl) (by rw [hcl2]; exact hsl) (by rw [hcl]; exact hfz)
  have hGf : GR Γ2 ds B ⟨S2.seen, S2.told.set S.seen.length xt⟩ (.slice (some ⟨bs, 0, none⟩) S2.told.length cc2) [(bs, celF ((p0 ++ (([.int .i64 xt.kind, .string xt.name, .string xt.own, .int .i64 xt.size, .int .i64 xt.of, .int .i64 xt.count, .bool xt.inc, .slice a6 xt.mems.length c6, .slice a7 xt.pars.length c7, .slice a8 xt.cons.length c8] : List Value) ++ q0)) ++ sp) T3 fz3)] ge2 := by
   refine ⟨by rw [List.length_set]; exact g1, g2, g3, ⟨_, by rw [List.length_set]; exact hrow, ?_⟩, g5⟩
   rw [← hlen]
   exact hset xt _ hT2
  refine WE.re (H2 := GHp pg pq (.slice (some ⟨bs, 0, none⟩) S2.told.length cc2) ge2 gc2 [(bs, celF ((p0 ++ (([.int .i64 xt.kind, .string xt.name, .string xt.own, .int .i64 xt.size, .int .i64 xt.of, .int .i64 xt.count, .bool xt.inc, .slice a6 xt.mems.length c6, .slice a7 xt.pars.length c7, .slice a8 xt.cons.length c8] : List Value) ++ q0)) ++ sp) T3 fz3)] F) (by rw [List.append_assoc, List.append_assoc]; exact sn_) ?_
  exact end_1 rfl rfl hle2 ⟨_, _, ge2, gc2, by rw [hlen], hGf, rfl⟩
theorem nm_all (hS : TS Γ0 l ds [] B es []) (hok : OkDs l ds) : ∀ f : Nat, NmC Γ0 l ds B pg pq f
 | 0 => nm_step (fun m h => by cases h) hS hok
 | f + 1 => nm_step (fun m h => by
  have : m = f := by omega
  subst this
  intro Γ F S tv Ht ge gc x d b
  exact nm_all hS hok m) hS hok
end
theorem newT_ok {Γ : Env} {H : List Blk} {big : Bool} {dA dI dL dR dS : Value} {ab ln rg sr : List UInt8} {us : List PU}
  (hG : Glob Γ) (hA : Byt Γ dA ab) (hI : Byt Γ dI (pusB big us)) (hL : Byt Γ dL ln) (hR : Byt Γ dR rg) (hS : Byt Γ dS sr)
  (hok : ∀ u ∈ us, OkPU ab u) (hdis : us.Pairwise (fun a b => a.abo ≠ b.abo)) (hsa : ab.length < 2147483648) (hall : (pusB big us).length < 2147483648) (hn : us.length < 2147483648) (hn0 : 0 < us.length) :
  Spc Tryz.prog 38 #[dA, nls, nls, dI, dL, nls, dR, dS] Γ H (fun v Γ' H' => ∃ pd pu rc r2 r3 cs, v = .tuple #[.pointer (some ⟨pd, 0, none⟩), .nilIface] ∧ UQs Γ' big 0 us cs ∧
   H' = (pd, cel (dcs dA dI dL dR dS nls nls nls nls rc r2 r3 big big (.slice (some ⟨pu, 0, none⟩) us.length us.length)) 133) :: (pu, cel cs 279) :: (r2, .map ([] : List MapEntry).toArray 0) :: H) := by
 have hA0 := hA
 obtain ⟨aA, cA, rfl, hA1, hA2⟩ := hA
 obtain ⟨aL, cL, rfl, -, -⟩ := hL
 obtain ⟨aR, cR, rfl, -, -⟩ := hR
 obtain ⟨aS, cS, rfl, -, -⟩ := hS
 obtain ⟨u0, hu0⟩ : ∃ u, us[0]? = some u := ⟨_, List.getElem?_eq_getElem hn0⟩
 have hou := hok u0 (List.mem_of_getElem? hu0)
 have hI' := hI
 obtain ⟨aI, cI, rfl, hI1, hI2⟩ := hI
 refine Spc.body8 Tryz.func38 rfl Tryz.ntmps38 rfl ?_
 refine gx_ ?_
 (refine WL.makeMap rfl ?_; intro rc)
 refine gx_ ?_
 (refine WL.makeMap rfl ?_; intro r2)
 refine gx_ ?_
 (refine WL.makeMap rfl ?_; intro r3)
 refine gx_ ?_
 (refine WL.box rfl spi_ rfl ?_; intro pd)
 refine gx_ ?_
 have hsp := pusB_split big us 0
 have hdr0 := pusB_drop (big := big) hu0
 rw [List.drop_zero, puB, List.append_assoc, List.append_assoc] at hdr0
 generalize us.drop (0 + 1) = us1 at hdr0
 have hpl : (pusB big us).length = lsz u0.wide + hsz u0 + u0.body.length + (pusB big us1).length := by
  rw [hdr0, List.length_append, List.length_append, List.length_append, lenB_length, hdB_length]; omega
 have hl4 := lsz_bd u0.wide
 have hh3 : 3 ≤ hsz u0 := by have := osz_bd u0.wide; unfold hsz; split <;> omega
 obtain ⟨tl, htl⟩ : ∃ tl, hdB big u0 = fix u0.vers 2 big ++ tl := ⟨_, rfl⟩
 rw [htl, List.append_assoc] at hdr0
 have hv2 := hou.v2
 have hv5 := hou.v5
 obtain ⟨y0, y1, hy, hyt, hyf⟩ : ∃ y0 y1, fix u0.vers 2 big = [y0, y1] ∧ (big = true → y0.toNat = 0 ∧ y1.toNat = u0.vers) ∧ (big = false → y0.toNat = u0.vers ∧ y1.toNat = 0) := by
  have e0 : (UInt8.ofNat (u0.vers % 256)).toNat = u0.vers := by rw [u8_of (by omega)]; omega
  have e1 : (UInt8.ofNat (u0.vers / 256 % 256)).toNat = 0 := by rw [u8_of (by omega)]; omega
  cases big with
  | true => exact ⟨_, _, rfl, fun _ => ⟨e1, e0⟩, fun h => (by cases h)⟩
  | false => exact ⟨_, _, rfl, fun h => (by cases h), fun _ => ⟨e0, e1⟩⟩
 rw [hy] at hdr0
 obtain ⟨bI, oI, rfl, hcell⟩ : ∃ bI oI, aI = some ⟨bI, oI, none⟩ ∧ ∀ i y, (pusB big us)[i]? = some y → Γ.cell bI (oI + i) = some (.int .u8 (y.toNat : Int)) := by
  cases h : pusB big us with
  | nil => rw [h] at hpl; simp at hpl; omega
  | cons x xs => rw [h] at hI2; exact hI2.cons
 refine WC.condF rfl (decide_eq_false (by omega)) ?_
 cases hwd : u0.wide
 ·rw [hwd] at hdr0 hpl
  obtain ⟨x0, x1, x2, x3, hx⟩ := list4 (fix_length (hsz u0 + u0.body.length) 4 big)
  have hbad : ¬ (x0.toNat = 255 ∧ x1.toNat = 255 ∧ x2.toNat = 255 ∧ x3.toNat = 255) := fun ⟨e0, e1, e2, e3⟩ => by
   have hh := num_fix (n := hsz u0 + u0.body.length) (s := 4) (Nat.lt_of_lt_of_le (show hsz u0 + u0.body.length < 2147483648 by omega) (by decide)) big
   rw [hx] at hh
   cases big <;> simp [num, le, e0, e1, e2, e3] at hh <;> omega
  have hlb : lenB false (hsz u0 + u0.body.length) big = [x0, x1, x2, x3] := hx
  rw [hlb] at hdr0
  have c0 : Γ.cell bI (oI + 0) = some (.int .u8 (x0.toNat : Int)) := hcell 0 _ (by rw [hdr0]; rfl)
  have c1 : Γ.cell bI (oI + 1) = some (.int .u8 (x1.toNat : Int)) := hcell 1 _ (by rw [hdr0]; rfl)
  have c2 : Γ.cell bI (oI + 2) = some (.int .u8 (x2.toNat : Int)) := hcell 2 _ (by rw [hdr0]; rfl)
  have c3 : Γ.cell bI (oI + 3) = some (.int .u8 (x3.toNat : Int)) := hcell 3 _ (by rw [hdr0]; rfl)
  have c4 : Γ.cell bI (oI + 4) = some (.int .u8 (y0.toNat : Int)) := hcell 4 _ (by rw [hdr0]; rfl)
  have c5 : Γ.cell bI (oI + 5) = some (.int .u8 (y1.toNat : Int)) := hcell 5 _ (by rw [hdr0]; rfl)
  have hw5 : IntKind.i64.wrap (4 + 1) = 5 := rfl
  have hl12 : lsz false = 4 := rfl
  clear hy hdr0 htl hx hlb hcell
  refine WC.skip ?_
  refine WE.then_ ?_
  refine WC.seqRun tab_ok rfl ?_
  refine WC.seq ?_
  refine WC.cutM (fun R' Γ' H' => R' = [(16, .pointer none), (17, .nilIface), (18, .pointer (some ⟨pd, 0, none⟩)), (19, .int .i64 4), (84, .bool false)] ∧ Γ = Γ' ∧ H' = (pd, cel (dcs (.slice aA ab.length cA) (.slice (some ⟨bI, oI, none⟩) (pusB big us).length cI) (.slice aL ln.length cL) (.slice aR rg.length cR) (.slice aS sr.length cS) nls nls nls nls rc r2 r3 false false nls) 133) :: (r3, .map #[] 0) :: (r2, .map #[] 0) :: (rc, .map #[] 0) :: H) ?_ ?_
  ·refine gx_ ?_
   cases h0 : ((x0.toNat : Int) == 255)
   ·refine gx_ ?_
    exact WE.mid ⟨rfl, rfl, rfl⟩ sr_ (fun _ h => h)
   refine gx_ ?_
   cases h1 : ((x1.toNat : Int) == 255)
   ·refine gx_ ?_
    exact WE.mid ⟨rfl, rfl, rfl⟩ sr_ (fun _ h => h)
   refine gx_ ?_
   cases h2 : ((x2.toNat : Int) == 255)
   ·refine gx_ ?_
    exact WE.mid ⟨rfl, rfl, rfl⟩ sr_ (fun _ h => h)
   refine gx_ ?_
   cases h3 : ((x3.toNat : Int) == 255)
   ·refine gx_ ?_
    exact WE.mid ⟨rfl, rfl, rfl⟩ sr_ (fun _ h => h)
   have e0 := eq_of_beq h0
   have e1 := eq_of_beq h1
   have e2 := eq_of_beq h2
   have e3 := eq_of_beq h3
   exact absurd ⟨by omega, by omega, by omega, by omega⟩ hbad
  rintro R' Γ' H' ⟨rfl, rfl, rfl⟩
  refine gx_ ?_
  refine WC.draw 17 (.take 0 (.take 1 (.take 2 (.take 3 (.take 4 (.take 5 (.take 6 (.take 7 (.take 8 (.take 9 (.take 10 (.take 11 (.take 12 (.take 13 (.take 14 (.one 15 (.one 16 .done))))))))))))))))) ((pd, _) :: []) mixed xsb_ (by decide +kernel) ?_
  refine dx_ ?_
  refine gx_ ?_
  cases big with
  | true =>
   have hy0 : y0.toNat = 0 := (hyt rfl).1
   have hy1 : y1.toNat = u0.vers := (hyt rfl).2
   rw [hy0, hy1]
   refine gx_ ?_
   rw [show ((u0.vers : Int) == 0) = false from beq_eq_false_iff_ne.2 (by omega)]
   refine gx_ ?_
   refine WL.call rfl Tryz.call59 rfl rfl (by exact (parseUnits_ok (rc := rc) hG pk_ hA0 hI' (.inr ⟨_, _, _, _, pk_, rfl⟩) (.inr ⟨_, _, _, _, pk_, rfl⟩) (.inr ⟨_, _, _, _, pk_, rfl⟩) (.inr ⟨_, _, _, _, pk_, rfl⟩) hok hdis hsa hall hn)) ?_
   rintro _ Γ1 _ hle ⟨pu, cs, es, ce, rfl, hcs, rfl⟩
   refine gx_ ?_
   refine WE.drop (b := rc) pk_ ?_
   refine WE.drop (b := r3) pk_ ?_
   exact end_2 rfl rfl rfl hle ⟨pd, pu, rc, r2, r3, cs, rfl, hcs.uq, rfl⟩
  | false =>
   have hy0 : y0.toNat = u0.vers := (hyf rfl).1
   have hy1 : y1.toNat = 0 := (hyf rfl).2
   rw [hy0, hy1]
   refine gx_ ?_
   rw [show ((u0.vers : Int) == 0) = false from beq_eq_false_iff_ne.2 (by omega)]
   refine gx_ ?_
   rw [show ((u0.vers : Int) == 0) = false from beq_eq_false_iff_ne.2 (by omega)]
   refine gx_ ?_
   refine WL.call rfl Tryz.call59 rfl rfl (by exact (parseUnits_ok (rc := rc) hG pk_ hA0 hI' (.inr ⟨_, _, _, _, pk_, rfl⟩) (.inr ⟨_, _, _, _, pk_, rfl⟩) (.inr ⟨_, _, _, _, pk_, rfl⟩) (.inr ⟨_, _, _, _, pk_, rfl⟩) hok hdis hsa hall hn)) ?_
   rintro _ Γ1 _ hle ⟨pu, cs, es, ce, rfl, hcs, rfl⟩
   refine gx_ ?_
   refine WE.drop (b := rc) pk_ ?_
   refine WE.drop (b := r3) pk_ ?_
   exact end_2 rfl rfl rfl hle ⟨pd, pu, rc, r2, r3, cs, rfl, hcs.uq, rfl⟩
 ·rw [hwd] at hdr0 hpl
  obtain ⟨z0, z1, z2, z3, z4, z5, z6, z7, hz⟩ := list8 (fix_length (hsz u0 + u0.body.length) 8 big)
  have hlb : lenB true (hsz u0 + u0.body.length) big = [255, 255, 255, 255, z0, z1, z2, z3, z4, z5, z6, z7] := by
   show [255, 255, 255, 255] ++ fix (hsz u0 + u0.body.length) 8 big = _
   rw [hz]; rfl
  rw [hlb] at hdr0
  have c0 : Γ.cell bI (oI + 0) = some (.int .u8 255) := hcell 0 255 (by rw [hdr0]; rfl)
  have c1 : Γ.cell bI (oI + 1) = some (.int .u8 255) := hcell 1 255 (by rw [hdr0]; rfl)
  have c2 : Γ.cell bI (oI + 2) = some (.int .u8 255) := hcell 2 255 (by rw [hdr0]; rfl)
  have c3 : Γ.cell bI (oI + 3) = some (.int .u8 255) := hcell 3 255 (by rw [hdr0]; rfl)
  have c4 : Γ.cell bI (oI + 12) = some (.int .u8 (y0.toNat : Int)) := hcell 12 _ (by rw [hdr0]; rfl)
  have c5 : Γ.cell bI (oI + 13) = some (.int .u8 (y1.toNat : Int)) := hcell 13 _ (by rw [hdr0]; rfl)
  have hw5 : IntKind.i64.wrap (12 + 1) = 13 := rfl
  have hl12 : lsz true = 12 := rfl
  clear hy hdr0 htl hz hlb hcell
  refine gx_ ?_
  refine WC.condF rfl (decide_eq_false (by omega)) ?_
  refine gx_ ?_
  refine WC.draw 17 (.take 0 (.take 1 (.take 2 (.take 3 (.take 4 (.take 5 (.take 6 (.take 7 (.take 8 (.take 9 (.take 10 (.take 11 (.take 12 (.take 13 (.take 14 (.one 15 (.one 16 .done))))))))))))))))) ((pd, _) :: []) mixed xsb_ (by decide +kernel) ?_
  refine dx_ ?_
  refine gx_ ?_
  cases big with
  | true =>
   have hy0 : y0.toNat = 0 := (hyt rfl).1
   have hy1 : y1.toNat = u0.vers := (hyt rfl).2
   rw [hy0, hy1]
   refine gx_ ?_
   rw [show ((u0.vers : Int) == 0) = false from beq_eq_false_iff_ne.2 (by omega)]
   refine gx_ ?_
   refine WL.call rfl Tryz.call59 rfl rfl (by exact (parseUnits_ok (rc := rc) hG pk_ hA0 hI' (.inr ⟨_, _, _, _, pk_, rfl⟩) (.inr ⟨_, _, _, _, pk_, rfl⟩) (.inr ⟨_, _, _, _, pk_, rfl⟩) (.inr ⟨_, _, _, _, pk_, rfl⟩) hok hdis hsa hall hn)) ?_
   rintro _ Γ1 _ hle ⟨pu, cs, es, ce, rfl, hcs, rfl⟩
   refine gx_ ?_
   refine WE.drop (b := rc) pk_ ?_
   refine WE.drop (b := r3) pk_ ?_
   exact end_2 rfl rfl rfl hle ⟨pd, pu, rc, r2, r3, cs, rfl, hcs.uq, rfl⟩
  | false =>
   have hy0 : y0.toNat = u0.vers := (hyf rfl).1
   have hy1 : y1.toNat = 0 := (hyf rfl).2
   rw [hy0, hy1]
   refine gx_ ?_
   rw [show ((u0.vers : Int) == 0) = false from beq_eq_false_iff_ne.2 (by omega)]
   refine gx_ ?_
   rw [show ((u0.vers : Int) == 0) = false from beq_eq_false_iff_ne.2 (by omega)]
   refine gx_ ?_
   refine WL.call rfl Tryz.call59 rfl rfl (by exact (parseUnits_ok (rc := rc) hG pk_ hA0 hI' (.inr ⟨_, _, _, _, pk_, rfl⟩) (.inr ⟨_, _, _, _, pk_, rfl⟩) (.inr ⟨_, _, _, _, pk_, rfl⟩) (.inr ⟨_, _, _, _, pk_, rfl⟩) hok hdis hsa hall hn)) ?_
   rintro _ Γ1 _ hle ⟨pu, cs, es, ce, rfl, hcs, rfl⟩
   refine gx_ ?_
   refine WE.drop (b := rc) pk_ ?_
   refine WE.drop (b := r3) pk_ ?_
   exact end_2 rfl rfl rfl hle ⟨pd, pu, rc, r2, r3, cs, rfl, hcs.uq, rfl⟩
theorem openT_ok {Γ : Env} {H : List Blk} {big : Bool} {v : Value} {ab ln rg sr lin : List UInt8} {rl : Option (List UInt8)} {us : List PU}
  (hG : Glob Γ) (hv : SecR Γ v ab (pusB big us) ln rg sr lin rl)
  (hok : ∀ u ∈ us, OkPU ab u) (hdis : us.Pairwise (fun a b => a.abo ≠ b.abo)) (hsa : ab.length < 2147483648) (hall : (pusB big us).length < 2147483648) (hn : us.length < 2147483648) (hn0 : 0 < us.length)
  (hln : ln.length < 2147483648) (hrg : rg.length < 2147483648) (hsr : sr.length < 2147483648) (hlin : lin.length < 2147483648) (hrl : ∀ r, rl = some r → r.length < 2147483648) :
  Spc Tryz.prog 26 #[v] Γ H (fun v Γ' H' => ∃ pd pu rc r2 r3 cs dA dI dL dR dS vl vr, v = .tuple #[.pointer (some ⟨pd, 0, none⟩), .nilIface] ∧ UQs Γ' big 0 us cs ∧ Byt Γ' dR rg ∧ Byt Γ' dS sr ∧ Byt Γ' vl lin ∧ RlR Γ' vr rl ∧
   H' = (pd, cel (dcs dA dI dL dR dS nls vl nls vr rc r2 r3 big big (.slice (some ⟨pu, 0, none⟩) us.length us.length)) 133) :: (pu, cel cs 279) :: (r2, .map ([] : List MapEntry).toArray 0) :: H) := by
 obtain ⟨vA, vI, vL, vR, vS, vD, rfl, hA, hI, hL, hR, hS, hD⟩ := hv.ex
 refine Spc.body1 Tryz.func26 rfl Tryz.ntmps26 rfl ?_
 refine WC.seq ?_
 refine WC.region ?_
 (refine WL.box rfl spi_ rfl ?_; intro b)
 refine gx_ ?_
 refine WC.draw 21 (.take 0 (.take 1 (.take 3 (.take 4 (.take 6 (.take 7 (.take 9 (.take 10 (.take 12 (.take 13 (.one 2 (.one 5 (.one 8 (.one 11 (.one 14 (.one 15 (.take 16 (.take 17 (.take 18 (.one 19 (.one 20 .done))))))))))))))))))))) ((b, _) :: []) mixed xsb_ (by decide +kernel) ?_
 refine dx_ ?_
 refine WL.call rfl Tryz.call39 rfl rfl (by exact (copied_ok hA hsa)) ?_
 rintro dA Γ1 _ hle1 ⟨hA1, rfl⟩
 refine dx_ ?_
 refine WL.call rfl Tryz.call39 rfl rfl (by exact (copied_ok (hI.mono hle1) hall)) ?_
 rintro dI Γ2 _ hle2' ⟨hI2, rfl⟩
 have hle2 := hle1.trans hle2'
 refine dx_ ?_
 refine WL.call rfl Tryz.call39 rfl rfl (by exact (copied_ok (hL.mono hle2) hln)) ?_
 rintro dL Γ3 _ hle3' ⟨hL3, rfl⟩
 have hle3 := hle2.trans hle3'
 refine dx_ ?_
 refine WL.call rfl Tryz.call39 rfl rfl (by exact (copied_ok (hR.mono hle3) hrg)) ?_
 rintro dR Γ4 _ hle4' ⟨hR4, rfl⟩
 have hle4 := hle3.trans hle4'
 refine dx_ ?_
 refine WL.call rfl Tryz.call39 rfl rfl (by exact (copied_ok (hS.mono hle4) hsr)) ?_
 rintro dS Γ5 _ hle5' ⟨hS5, rfl⟩
 have hle5 := hle4.trans hle5'
 refine dx_ ?_
 have hA5 := hA1.mono (hle2'.trans (hle3'.trans (hle4'.trans hle5')))
 have hI5 := hI2.mono (hle3'.trans (hle4'.trans hle5'))
 have hL5 := hL3.mono (hle4'.trans hle5')
 have hR5 := hR4.mono hle5'
 refine WL.call rfl Tryz.call38 rfl rfl (by exact (newT_ok (hG.mono hle5) hA5 hI5 hL5 hR5 hS5 hok hdis hsa hall hn hn0)) ?_
 rintro _ Γ6 _ hle6' ⟨pd, pu, rc, r2, r3, cs, rfl, hcs, rfl⟩
 have hle6 := hle5.trans hle6'
 refine dx_ ?_
 refine gx_ ?_
 have hD6 := hD.mono hle6
 have hR6 := hR5.mono hle6'
 have hS6 := hS5.mono hle6'
 clear hle1 hle2 hle3 hle4 hle2' hle3' hle4' hle5' hA1 hI2 hL3 hR4 hI5 hL5 hA5 hA hI hL hR hS hD hR5 hS5 hle5
 clear hv hle6'
 obtain ⟨bD, cap, vl, g0, g1, g2, g3⟩ := hD6.ex
 have g2' := g2
 obtain ⟨al, cl, rfl, -, -⟩ := g2'
 have hcell : ∀ {H' : List Blk} (o : Nat) (s v0 : Value) {q : Nat}, q = o → Γ6.cell bD o = some s → Γ6.cell bD (o + 1) = some v0 → ∀ k w, [s, v0][k]? = some w → Rd Γ6 H' bD (q + k) w := fun {H'} o s v0 q hq h0 h1 k w hk => by
  subst hq
  match k, hk with
  | 0, hk => injection hk with hk; subst hk; exact .inl h0
  | 1, hk => injection hk with hk; subst hk; exact .inl h1
 cases rl with
 | none =>
  obtain ⟨rfl, hcap⟩ := g3
  refine gx_ ?_
  refine WC.loop2 ?_
  refine gx_ ?_
  refine WL.ldRA (l := [.string sLineStr, .slice al lin.length cl]) tab_ok rfl rfl rfl (hcell 0 _ _ rfl g0 g1) rfl rfl ?_
  refine gx_ ?_
  (refine WL.alloc tab_ok rfl rfl ?_; intro b7)
  refine gx_ ?_
  refine WC.draw 8 (.take 0 (.take 1 (.take 2 (.take 3 (.take 4 (.one 5 (.one 6 (.one 7 .done)))))))) ((b7, _) :: []) mixed xsb_ (by decide +kernel) ?_
  refine dx_ ?_
  refine WL.call rfl Tryz.call39 rfl rfl (by exact (copied_ok g2 hlin)) ?_
  rintro vl' Γ7 _ hle7 ⟨hvl7, rfl⟩
  refine dx_ ?_
  refine WL.call rfl Tryz.call40 rfl rfl (by exact (addLine_ok pk_ hvl7)) ?_
  rintro _ _ _ - ⟨rfl, rfl, rfl⟩
  refine dx_ ?_
  refine gx_ ?_
  refine WE.rnd ?_
  refine gx_ ?_
  refine WE.drop (b := b) pk_ ?_
  refine WE.drop (b := b7) pk_ ?_
  exact end_2 rfl rfl rfl (hle6.trans hle7) ⟨pd, pu, rc, r2, r3, cs, dA, dI, dL, dR, dS, vl', nls, rfl, hcs.mono hle7, hR6.mono hle7, hS6.mono hle7, hvl7, rfl, rfl⟩
 | some r =>
  obtain ⟨rfl, hcap, vr, g4, g5, g6⟩ := g3
  have g6' := g6
  obtain ⟨ar, cr, rfl, -, -⟩ := g6'
  refine gx_ ?_
  have hw1 : IntKind.i64.wrap (0 + 1) = 1 := rfl
  refine WC.loop3 ?_
  refine gx_ ?_
  refine WL.ldRA (l := [.string sLineStr, .slice al lin.length cl]) tab_ok rfl rfl rfl (hcell 0 _ _ rfl g0 g1) rfl rfl ?_
  refine gx_ ?_
  (refine WL.alloc tab_ok rfl rfl ?_; intro b7)
  refine gx_ ?_
  refine WC.draw 8 (.take 0 (.take 1 (.take 2 (.take 3 (.take 4 (.one 5 (.one 6 (.one 7 .done)))))))) ((b7, _) :: []) mixed xsb_ (by decide +kernel) ?_
  refine dx_ ?_
  refine WL.call rfl Tryz.call39 rfl rfl (by exact (copied_ok g2 hlin)) ?_
  rintro vl' Γ7 _ hle7 ⟨hvl7, rfl⟩
  refine dx_ ?_
  refine WL.call rfl Tryz.call40 rfl rfl (by exact (addLine_ok pk_ hvl7)) ?_
  rintro _ _ _ - ⟨rfl, rfl, rfl⟩
  refine dx_ ?_
  refine gx_ ?_
  refine WE.rnd ?_
  refine gx_ ?_
  refine WL.ldRA (l := [.string sRngLists, .slice ar r.length cr]) tab_ok rfl rfl rfl (fun k w hk => (hcell 2 _ _ rfl g4 g5 k w hk).mono hle7) rfl rfl ?_
  refine gx_ ?_
  (refine WL.alloc tab_ok rfl rfl ?_; intro b8)
  refine gx_ ?_
  refine WC.draw 8 (.take 0 (.take 1 (.take 2 (.take 3 (.take 4 (.one 5 (.one 6 (.one 7 .done)))))))) ((b8, _) :: []) mixed xsb_ (by decide +kernel) ?_
  refine dx_ ?_
  refine WL.call rfl Tryz.call39 rfl rfl (by exact (copied_ok (g6.mono hle7) (hrl r rfl))) ?_
  rintro vr' Γ8 _ hle8 ⟨hvr8, rfl⟩
  refine dx_ ?_
  refine WL.call rfl Tryz.call40 rfl rfl (by exact (addRng_ok pk_ hvr8)) ?_
  rintro _ _ _ - ⟨rfl, rfl, rfl⟩
  refine dx_ ?_
  refine gx_ ?_
  refine WE.rnd ?_
  refine gx_ ?_
  refine WE.drop (b := b) pk_ ?_
  refine WE.drop (b := b7) pk_ ?_
  refine WE.drop (b := b8) pk_ ?_
  exact end_2 rfl rfl rfl (hle6.trans (hle7.trans hle8)) ⟨pd, pu, rc, r2, r3, cs, dA, dI, dL, dR, dS, vl', vr', rfl, hcs.mono (hle7.trans hle8), hR6.mono (hle7.trans hle8), hS6.mono (hle7.trans hle8), hvl7.mono hle8, hvr8, rfl⟩
theorem typeD_ok {pd pu pm : Nat} {l : Lay} {ds : List Df} {Γ : Env} {F : List Blk} {B : BM} {es : List MapEntry} {c j : Nat} {ou : Obj} {d : Df} (tx : TX Γ pd pu l ds) (ux : UX Γ l ds ou) (ts : TS Γ l ds [] B es []) (hpm : Γ.cell pd 15 = some (.map (some pm))) (hj : ds[j]? = some d) :
  Spc Tryz.prog 28 #[.pointer (some ⟨pd, 0, none⟩), .int .u32 ((nodO l ds (rtI ds j) : Nat) : Int)] Γ ((pu, ou) :: (pm, .map es.toArray c) :: F)
   (fun v Γ' H' => ∃ (ou : Obj) (es : List MapEntry) (c : Nat) (B' : BM) (b : Nat), v = .tuple #[pkey (tyP d.kind) b, .nilIface] ∧ B' j 0 = some b ∧ B.le B' ∧ UX Γ' l ds ou ∧ TS Γ' l ds [] B' es [] ∧ H' = (pu, ou) :: (pm, .map es.toArray c) :: F) := by
 refine Spc.body2 Tryz.func28 rfl Tryz.ntmps28 rfl ?_
 have h15 : Γ.cell pd (0 + 15) = some (.map (some pm)) := hpm
 refine hz_ ?_
 refine WC.draw 14 (.take 0 (.take 1 (.take 4 (.take 5 (.take 6 (.take 7 (.take 8 (.one 2 (.take 3 (.one 9 (.take 10 (.take 11 (.one 12 (.one 13 .done)))))))))))))) ([] : List Blk) mixed hsb_ (by decide +kernel) ?_
 refine jz_ ?_
 refine WL.call rfl Tryz.call43 rfl rfl (by exact (readerN_ok tx ux Pick.here)) ?_
 rintro _ Γ1 _ hle1 ⟨pr, o, ou1, rfl, hF, hu1, rfl⟩
 refine jz_ ?_
 refine WL.call rfl Tryz.call42 rfl rfl (by exact (rt_root (tx.mono hle1) hu1 (ts.mono hle1) hF hj)) ?_
 rintro _ Γ2 _ hle2 ⟨ou2, es2, c2, B2, b2, rfl, hb2, hB2, hu2, hS2, rfl⟩
 have hle := hle1.trans hle2
 refine jz_ ?_
 refine hz_ ?_
 exact end_2 rfl rfl rfl hle ⟨ou2, es2, c2, B2, b2, rfl, hb2, hB2, hu2, hS2, rfl⟩
set_option maxHeartbeats 4000000
def runT (l : Lay) (ds : List Df) (f : Nat) : TSt → List Nat → TSt × List Int
 | S, [] => (S, [])
 | S, j :: js => ((runT l ds f (numNd l ds f S (j, 0)).1 js).1, (numNd l ds f S (j, 0)).2 :: (runT l ds f (numNd l ds f S (j, 0)).1 js).2)
theorem runT_snoc (l : Lay) (ds : List Df) (f j : Nat) : ∀ (js : List Nat) (S : TSt), runT l ds f S (js ++ [j]) = ((numNd l ds f (runT l ds f S js).1 (j, 0)).1, (runT l ds f S js).2 ++ [(numNd l ds f (runT l ds f S js).1 (j, 0)).2])
 | [], S => rfl
 | x :: js, S => by rw [List.cons_append, runT, runT_snoc l ds f j js, runT]; rfl
theorem runT_len (l : Lay) (ds : List Df) (f : Nat) : ∀ (js : List Nat) (S : TSt), (runT l ds f S js).2.length = js.length
 | [], _ => rfl
 | j :: js, S => by rw [runT, List.length_cons, runT_len l ds f js, List.length_cons]
theorem allN_len (ds : List Df) : (allN ds).length = ds.length * 5 := by
 have h : ∀ L : List Nat, (L.flatMap fun j => (List.range 5).map fun q => (j, q)).length = L.length * 5 := by
  intro L
  induction L with
  | nil => rfl
  | cons x L ih => rw [List.flatMap_cons, List.length_append, ih, List.length_map, List.length_range, List.length_cons]; omega
 unfold allN
 rw [h, List.length_range]
theorem bySize_lay {l m : Lay} (h : l.size = m.size) (d : Df) : bySize l d = bySize m d := by unfold bySize; rw [h]
theorem szF_lay {l m : Lay} (h : l.size = m.size) (ds : List Df) : ∀ (f : Nat) (n : Int), szF l ds f n = szF m ds f n
 | 0, _ => rfl
 | f + 1, n => by
  unfold szF
  cases ds[n.toNat]? with
  | none => rfl
  | some d => simp only [szF_lay h ds f d.of, bySize_lay h d]
theorem recT_lay {l m : Lay} (h : l.size = m.size) (ds : List Df) (g : NumF) (S : TSt) (j q : Nat) (d : Df) : recT l ds g S j q d = recT m ds g S j q d := by
 unfold recT szJ
 rw [h, szF_lay h]
theorem numNd_lay {l m : Lay} (h : l.size = m.size) (ds : List Df) : ∀ f : Nat, numNd l ds f = numNd m ds f
 | 0 => rfl
 | f + 1 => by
  funext S x
  unfold numNd
  rw [numNd_lay h ds f]
  cases ixOf x S.seen 0 with
  | some i => rfl
  | none =>
   cases ds[x.1]? with
   | none => rfl
   | some d => simp only [recT_lay h]
theorem runT_lay {l m : Lay} (h : l.size = m.size) (ds : List Df) (f : Nat) : ∀ (js : List Nat) (S : TSt), runT l ds f S js = runT m ds f S js
 | [], _ => rfl
 | j :: js, S => by unfold runT; rw [numNd_lay h, runT_lay h ds f js]
section
variable {l : Lay} {ds : List Df}
def childN (d : Df) (j q : Nat) : Nd := if d.kind = 11 ∧ q + 1 < d.cnts.length then (j, q + 1) else (d.of.toNat, 0)
def szN (l : Lay) (ds : List Df) (d : Df) (q : Nat) : Int :=
 if d.kind = 9 then l.size else if d.kind = 12 ∨ d.kind = 13 then szJ l ds d.of else if d.kind = 11 then szA (szJ l ds d.of) (d.cnts.drop q) else if d.kind = 15 ∨ d.kind = 16 then 0 else if d.kind = 10 then (if d.inc then 0 else d.size) else d.size
structure FinT (l : Lay) (ds : List Df) (seen : List Nd) (x : Nd) (d : Df) (t : Ty) : Prop where
 dd : ds[x.1]? = some d
 kind : t.kind = d.kind
 size : t.size = szN l ds d x.2
 count : t.count = if d.kind = 11 then d.cnts.getD x.2 0 else 0
 inc : t.inc = true → d.inc = true
 inc' : d.kind = 10 → t.inc = d.inc
 of : 0 ≤ t.of → seen[t.of.toNat]? = some (childN d x.1 x.2)
 op : 0 ≤ t.of → d.kind = 12 ∨ d.kind = 13 → 0 ≤ d.of
 ofk : d.kind = 11 ∨ d.kind = 12 ∨ d.kind = 13 → x.2 < d.cnts.length ∨ d.kind ≠ 11
 mems : t.mems.length ≤ 50
 pars : t.pars.length ≤ 50
 cons : t.cons.length ≤ 50
structure InvT (l : Lay) (ds : List Df) (o : List Nat) (S : TSt) : Prop where
 len : S.told.length = S.seen.length
 ok : ∀ (i : Nat) (x : Nd), S.seen[i]? = some x → ∃ d, ds[x.1]? = some d ∧ (x.2 = 0 ∨ (d.kind = 11 ∧ x.2 < d.cnts.length))
 fin : ∀ (i : Nat) (x : Nd), S.seen[i]? = some x → i ∈ o ∨ ∃ d t, S.told[i]? = some t ∧ FinT l ds S.seen x d t
def NdOk (ds : List Df) (x : Nd) : Prop := ∃ d, ds[x.1]? = some d ∧ (x.2 = 0 ∨ (d.kind = 11 ∧ x.2 < d.cnts.length))
def NumG (l : Lay) (ds : List Df) (f : Nat) (g : NumF) : Prop := ∀ (o : List Nat) (S : TSt) (x : Nd), InvT l ds o S → NdOk ds x → missN ds S.seen ≤ f →
 InvT l ds o (g S x).1 ∧ S.seen <+: (g S x).1.seen ∧ ∃ k : Nat, (g S x).2 = (k : Int) ∧ (g S x).1.seen[k]? = some x
theorem pre_get {α : Type} {a b : List α} (h : a <+: b) {i : Nat} {x : α} (hx : a[i]? = some x) : b[i]? = some x := by
 obtain ⟨t, rfl⟩ := h
 have := (List.getElem?_eq_some_iff.1 hx).1
 rw [List.getElem?_append_left this]; exact hx
theorem FinT.mono {s s' : List Nd} (h : s <+: s') {x : Nd} {d : Df} {t : Ty} (hf : FinT l ds s x d t) : FinT l ds s' x d t :=
 ⟨hf.dd, hf.kind, hf.size, hf.count, hf.inc, hf.inc', fun h0 => pre_get h (hf.of h0), hf.op, hf.ofk, hf.mems, hf.pars, hf.cons⟩
theorem numOf_g {f : Nat} {g : NumF} (hg : NumG l ds f g) {o : List Nat} {S : TSt} {n : Int} (hI : InvT l ds o S) (hn : n < ds.length) (hm : missN ds S.seen ≤ f) :
  InvT l ds o (numOf g S n).1 ∧ S.seen <+: (numOf g S n).1.seen ∧ (0 ≤ (numOf g S n).2 → (numOf g S n).1.seen[(numOf g S n).2.toNat]? = some (n.toNat, 0) ∧ 0 ≤ n) := by
 unfold numOf
 split
 ·exact ⟨hI, List.prefix_refl _, fun h => by omega⟩
 split
 ·exact ⟨hI, List.prefix_refl _, fun h => by omega⟩
 ·rename_i h3 h0
  obtain ⟨d, hd⟩ : ∃ d, ds[n.toNat]? = some d := ⟨_, List.getElem?_eq_getElem (by omega)⟩
  obtain ⟨h1, h2, k, hk, hs⟩ := hg o S (n.toNat, 0) hI ⟨d, hd, .inl rfl⟩ hm
  exact ⟨h1, h2, fun _ => ⟨by rw [hk]; exact hs, by omega⟩⟩
theorem pre_miss {S S' : List Nd} (h : S <+: S') : missN ds S' ≤ missN ds S := missN_le fun _ hx => h.subset hx
theorem numsP_g {f : Nat} {g : NumF} (hg : NumG l ds f g) {o : List Nat} : ∀ (ps : List Int) (S : TSt), InvT l ds o S → (∀ p ∈ ps, p < ds.length) → missN ds S.seen ≤ f → InvT l ds o (numsP g S ps).1 ∧ S.seen <+: (numsP g S ps).1.seen ∧ (numsP g S ps).2.length = ps.length
 | [], S, hI, _, _ => ⟨hI, List.prefix_refl _, rfl⟩
 | p :: ps, S, hI, hp, hm => by
  obtain ⟨h1, h2, -⟩ := numOf_g hg hI (hp p (List.mem_cons_self ..)) hm
  obtain ⟨h3, h4, h5⟩ := numsP_g hg ps _ h1 (fun q hq => hp q (List.mem_cons_of_mem _ hq)) (Nat.le_trans (pre_miss h2) hm)
  exact ⟨h3, h2.trans h4, by unfold numsP; rw [List.length_cons, List.length_cons, h5]⟩
theorem numsM_g {f : Nat} {g : NumF} (hg : NumG l ds f g) {o : List Nat} : ∀ (ps : List Mem) (S : TSt), InvT l ds o S → (∀ p ∈ ps, p.of < ds.length) → missN ds S.seen ≤ f → InvT l ds o (numsM g S ps).1 ∧ S.seen <+: (numsM g S ps).1.seen ∧ (numsM g S ps).2.length = ps.length
 | [], S, hI, _, _ => ⟨hI, List.prefix_refl _, rfl⟩
 | p :: ps, S, hI, hp, hm => by
  obtain ⟨h1, h2, -⟩ := numOf_g hg hI (hp p (List.mem_cons_self ..)) hm
  obtain ⟨h3, h4, h5⟩ := numsM_g hg ps _ h1 (fun q hq => hp q (List.mem_cons_of_mem _ hq)) (Nat.le_trans (pre_miss h2) hm)
  exact ⟨h3, h2.trans h4, by unfold numsM; rw [List.length_cons, List.length_cons, h5]⟩
theorem ixOf_some {x : Nd} : ∀ {l : List Nd} {i k : Nat}, ixOf x l i = some k → ∃ m, k = i + m ∧ l[m]? = some x
 | [], _, _, h => by cases h
 | y :: l, i, k, h => by
  unfold ixOf at h
  by_cases e : y = x
  ·rw [if_pos e] at h; injection h with h; exact ⟨0, by omega, by rw [e]; rfl⟩
  ·rw [if_neg e] at h
   obtain ⟨m, h1, h2⟩ := ixOf_some h
   exact ⟨m + 1, by omega, h2⟩
theorem recT_g (hok : OkDs l ds) {f : Nat} {g : NumF} (hg : NumG l ds f g) {o : List Nat} {S : TSt} {x : Nd} {d : Df} (hd : ds[x.1]? = some d) (hx : x.2 = 0 ∨ (d.kind = 11 ∧ x.2 < d.cnts.length)) (hI : InvT l ds o S) (hm : missN ds S.seen ≤ f) :
  InvT l ds o (recT l ds g S x.1 x.2 d).1 ∧ S.seen <+: (recT l ds g S x.1 x.2 d).1.seen ∧ FinT l ds (recT l ds g S x.1 x.2 d).1.seen x d (recT l ds g S x.1 x.2 d).2 := by
 have hO := hok.each _ d hd
 have h1 := hO.d0.of1
 have hpar := hO.par
 have hk1 := hO.k1
 have hk16 := hO.k16
 have hml := hO.d0.meml
 have hpl := hO.d0.parl
 have hcl := hO.d0.conl
 have harr := hO.arrn
 have hinc := hO.inc
 have hin10 : d.kind ≠ 10 → d.inc = false := fun h => by
  cases e : d.inc with
  | false => rfl
  | true => exact absurd (hinc e).1 h
 have hmem : ∀ m ∈ d.mems, m.of < ds.length := fun m hm => by
  obtain ⟨i, hi⟩ := List.getElem?_of_mem hm
  exact (hO.mem i m hi).of1
 have hp' : ∀ p ∈ d.pars, p < ds.length := fun p hp => by
  rcases hpar p hp with rfl | h <;> omega
 obtain ⟨n1, n2, n3⟩ := numOf_g hg hI h1 hm
 have hch : d.kind ≠ 11 → childN d x.1 x.2 = (d.of.toNat, 0) := fun h => by unfold childN; rw [if_neg (fun h' => h h'.1)]
 unfold recT
 by_cases h9 : d.kind = 9
 ·rw [if_pos h9]
  exact ⟨n1, n2, hd, h9.symm, by unfold szN; rw [if_pos h9], by rw [if_neg (by omega)], fun h => (by cases h), fun h => (by omega), fun h => by rw [hch (by omega)]; exact (n3 h).1, fun h _ => (n3 h).2, fun _ => .inr (by omega), Nat.zero_le _, Nat.zero_le _, Nat.zero_le _⟩
 rw [if_neg h9]
 by_cases h12 : d.kind = 12
 ·rw [if_pos h12]
  exact ⟨n1, n2, hd, h12.symm, by unfold szN; rw [if_neg h9, if_pos (.inl h12)], by rw [if_neg (by omega)], fun h => (by cases h), fun h => (by omega), fun h => by rw [hch (by omega)]; exact (n3 h).1, fun h _ => (n3 h).2, fun _ => .inr (by omega), Nat.zero_le _, Nat.zero_le _, Nat.zero_le _⟩
 rw [if_neg h12]
 by_cases h13 : d.kind = 13
 ·rw [if_pos h13]
  exact ⟨n1, n2, hd, h13.symm, by unfold szN; rw [if_neg h9, if_pos (.inr h13)], by rw [if_neg (by omega)], fun h => (by cases h), fun h => (by omega), fun h => by rw [hch (by omega)]; exact (n3 h).1, fun h _ => (n3 h).2, fun _ => .inr (by omega), Nat.zero_le _, Nat.zero_le _, Nat.zero_le _⟩
 rw [if_neg h13]
 by_cases h11 : d.kind = 11
 ·rw [if_pos h11]
  have hql : x.2 < d.cnts.length := by
   rcases hx with h | h
   ·have := harr h11; omega
   ·exact h.2
  simp only
  by_cases hq : x.2 + 1 < d.cnts.length
  ·rw [if_pos hq]
   obtain ⟨m1, m2, k, hk, m3⟩ := hg o S (x.1, x.2 + 1) hI ⟨d, hd, .inr ⟨h11, hq⟩⟩ hm
   exact ⟨m1, m2, hd, h11.symm, by simp [szN, h11], by rw [if_pos h11], fun h => (by cases h), fun h => (by omega), fun h => by unfold childN; rw [if_pos ⟨h11, hq⟩]; simp only [hk]; exact m3, fun _ hh => by omega, fun _ => .inl hql, Nat.zero_le _, Nat.zero_le _, Nat.zero_le _⟩
  ·rw [if_neg hq]
   exact ⟨n1, n2, hd, h11.symm, by simp [szN, h11], by rw [if_pos h11], fun h => (by cases h), fun h => (by omega), fun h => by unfold childN; rw [if_neg (fun h' => hq h'.2)]; exact (n3 h).1, fun _ hh => by omega, fun _ => .inl hql, Nat.zero_le _, Nat.zero_le _, Nat.zero_le _⟩
 rw [if_neg h11]
 by_cases h15 : d.kind = 15
 ·rw [if_pos h15]
  simp only
  obtain ⟨p1, p2, p3⟩ := numsP_g hg d.pars _ n1 hp' (Nat.le_trans (pre_miss n2) hm)
  exact ⟨p1, n2.trans p2, hd, h15.symm, by simp [szN, h15], by rw [if_neg h11], fun h => (by cases h), fun h => (by omega), fun h => by rw [hch h11]; exact pre_get p2 (n3 h).1, fun _ hh => by omega, fun _ => .inr h11, Nat.zero_le _, by rw [p3]; exact hpl, Nat.zero_le _⟩
 rw [if_neg h15]
 by_cases h10 : d.kind = 10
 ·rw [if_pos h10]
  simp only
  obtain ⟨p1, p2, p3⟩ := numsM_g hg d.mems _ hI hmem hm
  exact ⟨p1, p2, hd, h10.symm, by simp [szN, h10], by rw [if_neg h11], fun h => h, fun _ => rfl, fun h => absurd h (by show ¬ (0 : Int) ≤ -1; decide), fun _ hh => by omega, fun _ => .inr h11, by rw [p3]; exact hml, Nat.zero_le _, Nat.zero_le _⟩
 rw [if_neg h10]
 by_cases h14 : d.kind = 14
 ·rw [if_pos h14]
  exact ⟨hI, List.prefix_refl _, hd, h14.symm, by simp [szN, h14], by rw [if_neg h11], fun h => (by cases h), fun h => absurd h h10, fun h => absurd h (by show ¬ (0 : Int) ≤ -1; decide), fun _ hh => by omega, fun _ => .inr h11, Nat.zero_le _, Nat.zero_le _, hcl⟩
 rw [if_neg h14]
 by_cases h16 : d.kind = 16
 ·rw [if_pos h16]
  exact ⟨hI, List.prefix_refl _, hd, h16.symm, by simp [szN, h16], by rw [if_neg h11], fun h => (by cases h), fun h => absurd h h10, fun h => absurd h (by show ¬ (0 : Int) ≤ -1; decide), fun _ hh => by omega, fun _ => .inr h11, Nat.zero_le _, Nat.zero_le _, Nat.zero_le _⟩
 rw [if_neg h16]
 exact ⟨hI, List.prefix_refl _, hd, rfl, by simp [szN, h9, h11, h12, h13, h15, h16, h10], by rw [if_neg h11], fun h => (by cases h), fun h => absurd h h10, fun h => absurd h (by show ¬ (0 : Int) ≤ -1; decide), fun _ hh => by omega, fun _ => .inr h11, Nat.zero_le _, Nat.zero_le _, Nat.zero_le _⟩
theorem ok_q (hok : OkDs l ds) {x : Nd} (h : NdOk ds x) : x.1 < ds.length ∧ x.2 < 5 := by
 obtain ⟨d, hd, hx⟩ := h
 have := (hok.each _ d hd).d0.cntl
 refine ⟨(List.getElem?_eq_some_iff.1 hd).1, ?_⟩
 rcases hx with h | h
 ·omega
 ·omega
theorem numNd_g (hok : OkDs l ds) : ∀ f : Nat, NumG l ds f (numNd l ds f)
 | 0 => fun o S x hI hx hm => by
  have hq := ok_q hok hx
  unfold numNd
  cases h : ixOf x S.seen 0 with
  | some k =>
   obtain ⟨m, h1, h2⟩ := ixOf_some h
   exact ⟨hI, List.prefix_refl _, k, rfl, by rw [h1, Nat.zero_add]; exact h2⟩
  | none =>
   exfalso
   have hn := ixOf_none h
   have := missN_snoc (ds := ds) hn hq.1 hq.2
   omega
 | f + 1 => fun o S x hI hx hm => by
  have hq := ok_q hok hx
  unfold numNd
  cases h : ixOf x S.seen 0 with
  | some k =>
   obtain ⟨m, h1, h2⟩ := ixOf_some h
   exact ⟨hI, List.prefix_refl _, k, rfl, by rw [h1, Nat.zero_add]; exact h2⟩
  | none =>
   have hn := ixOf_none h
   have hms := missN_snoc (ds := ds) hn hq.1 hq.2
   obtain ⟨d, hd, hx'⟩ := hx
   rw [hd]
   simp only
   have hI0 : InvT l ds (S.seen.length :: o) ⟨S.seen ++ [x], S.told ++ [Ty.nil]⟩ := by
    refine ⟨by simp [hI.len], fun i y hy => ?_, fun i y hy => ?_⟩
    ·rcases Nat.lt_or_ge i S.seen.length with hlt | hge
     ·rw [List.getElem?_append_left hlt] at hy
      exact hI.ok i y hy
     ·have hi := (List.getElem?_eq_some_iff.1 hy).1
      simp only [List.length_append, List.length_singleton] at hi
      have ei : i = S.seen.length := by omega
      subst ei
      rw [List.getElem?_append_right (Nat.le_refl _), Nat.sub_self] at hy
      injection hy with hy; subst hy
      exact ⟨d, hd, hx'⟩
    ·rcases Nat.lt_or_ge i S.seen.length with hlt | hge
     ·rw [List.getElem?_append_left hlt] at hy
      rcases hI.fin i y hy with h1 | ⟨d', t, h1, h2⟩
      ·exact .inl (List.mem_cons_of_mem _ h1)
      ·exact .inr ⟨d', t, by rw [List.getElem?_append_left (by rw [hI.len]; exact hlt)]; exact h1, h2.mono (List.prefix_append _ _)⟩
     ·have hi := (List.getElem?_eq_some_iff.1 hy).1
      simp only [List.length_append, List.length_singleton] at hi
      have ei : i = S.seen.length := by omega
      subst ei
      exact .inl (List.mem_cons_self ..)
   obtain ⟨r1, r2, r3⟩ := recT_g hok (numNd_g hok f) hd hx' hI0 (by simp only; omega)
   generalize recT l ds (numNd l ds f) ⟨S.seen ++ [x], S.told ++ [Ty.nil]⟩ x.1 x.2 d = R at r1 r2 r3 ⊢
   simp only at r2
   have hget : R.1.seen[S.seen.length]? = some x := pre_get r2 (by rw [List.getElem?_append_right (Nat.le_refl _), Nat.sub_self]; rfl)
   refine ⟨⟨by simp only [List.length_set]; exact r1.len, fun i y hy => r1.ok i y hy, fun i y hy => ?_⟩, (List.prefix_append _ _).trans r2, _, rfl, hget⟩
   by_cases ei : S.seen.length = i
   ·subst ei
    have : y = x := by
     have hy' : R.1.seen[S.seen.length]? = some y := hy
     rw [hget] at hy'; injection hy' with hy'; exact hy'.symm
    subst this
    refine .inr ⟨d, R.2, ?_, r3⟩
    have hlt := (List.getElem?_eq_some_iff.1 hget).1
    simp only
    rw [List.getElem?_set_self (by rw [r1.len]; exact hlt)]
   ·rcases r1.fin i y hy with h1 | ⟨d', t, h1, h2⟩
    ·rcases List.mem_cons.1 h1 with h1 | h1
     ·exact absurd h1.symm ei
     ·exact .inl h1
    ·exact .inr ⟨d', t, by simp only; rw [List.getElem?_set_ne ei]; exact h1, h2⟩
theorem inv0 : InvT l ds [] ⟨[], []⟩ := ⟨rfl, fun i x h => by simp at h, fun i x h => by simp at h⟩
theorem runT_g (hok : OkDs l ds) : ∀ (js : List Nat) (S : TSt), InvT l ds [] S → (∀ j ∈ js, j < ds.length) → InvT l ds [] (runT l ds 1000 S js).1 ∧ S.seen <+: (runT l ds 1000 S js).1.seen
 | [], S, hI, _ => ⟨hI, List.prefix_refl _⟩
 | j :: js, S, hI, hj => by
  obtain ⟨d, hd⟩ : ∃ d, ds[j]? = some d := ⟨_, List.getElem?_eq_getElem (hj j (List.mem_cons_self ..))⟩
  have hmn : missN ds S.seen ≤ 1000 := by
   have : missN ds S.seen ≤ ds.length * 5 := by
    unfold missN
    rw [← allN_len]
    exact List.length_filter_le _ _
   have := hok.n1
   omega
  obtain ⟨h1, h2, -⟩ := numNd_g hok 1000 [] S (j, 0) hI ⟨d, hd, .inl rfl⟩ hmn
  obtain ⟨h3, h4⟩ := runT_g hok js _ h1 fun y hy => hj y (List.mem_cons_of_mem _ hy)
  exact ⟨h3, h2.trans h4⟩
theorem InvT.get {S : TSt} (h : InvT l ds [] S) {i : Nat} {t : Ty} (ht : S.told[i]? = some t) : ∃ x d, S.seen[i]? = some x ∧ FinT l ds S.seen x d t := by
 have hi := (List.getElem?_eq_some_iff.1 ht).1
 rw [h.len] at hi
 obtain ⟨x, hx⟩ : ∃ x, S.seen[i]? = some x := ⟨_, List.getElem?_eq_getElem hi⟩
 rcases h.fin i x hx with h1 | ⟨d, t', h1, h2⟩
 ·cases h1
 ·rw [ht] at h1; injection h1 with h1; subst h1
  exact ⟨x, d, hx, h2⟩
theorem sizes_rel (hok : OkDs l ds) {S : TSt} (hI : InvT l ds [] S) {i : Nat} {t : Ty} (ht : S.told[i]? = some t) (h0 : 0 ≤ t.of) : ∃ u, S.told[t.of.toNat]? = some u ∧ (u.kind ≠ 15 → u.kind ≠ 16 → u.inc = false → u.kind ≠ 11 → u.kind ≠ 12 → u.kind ≠ 13 → ((t.kind = 12 ∨ t.kind = 13) → t.size = u.size) ∧ (t.kind = 11 → 0 ≤ t.count → t.size = IntKind.i64.wrap (t.count * u.size))) := by
 obtain ⟨x, d, hx, hF⟩ := hI.get ht
 have hc := hF.of h0
 rcases hI.fin _ _ hc with h | ⟨d', u, hu, hF'⟩
 ·cases h
 refine ⟨u, hu, fun u15 u16 ui u11 u12 u13 => ?_⟩
 have hO := hok.each _ d hF.dd
 have hO' := hok.each _ d' hF'.dd
 have hk1 := hO'.k1
 have hk16 := hO'.k16
 have hah := hO.d1.ahead
 have har := hO.d1.arr
 have hkd := hF.kind
 have hku := hF'.kind
 have hn : childN d x.1 x.2 = (d.of.toNat, 0) ∧ (d.kind = 11 → ¬ x.2 + 1 < d.cnts.length) := by
  unfold childN
  split
  ·rename_i hq
   exfalso
   have hdd := hF'.dd
   unfold childN at hdd
   rw [if_pos hq] at hdd
   rw [hF.dd] at hdd
   injection hdd with hdd
   subst hdd
   exact u11 (by rw [hku]; exact hq.1)
  ·rename_i hq
   exact ⟨rfl, fun h h' => hq ⟨h, h'⟩⟩
 have hdd := hF'.dd
 have hsz := hF'.size
 rw [hn.1] at hdd hsz
 simp only at hdd hsz
 have hby : 0 ≤ d.of → szJ l ds d.of = u.size := fun hof => by
  unfold szJ szF
  rw [if_neg (by omega), hdd]
  simp only
  rw [if_neg (by omega), if_neg (by omega), hsz]
  unfold bySize szN
  by_cases h9 : d'.kind = 9
  ·rw [if_pos h9, if_pos h9]
  rw [if_neg h9, if_neg h9, if_neg (by omega : ¬ (d'.kind = 12 ∨ d'.kind = 13)), if_neg (by omega : ¬ d'.kind = 11), if_neg (by omega : ¬ (d'.kind = 15 ∨ d'.kind = 16))]
  by_cases h10 : d'.kind = 10
  ·have hui := hF'.inc' h10
   rw [if_pos h10, if_pos h10, ← hui, ui]
   rfl
  rw [if_neg h10, if_neg h10, if_pos (by omega)]
 refine ⟨fun hk => ?_, fun hk hcn => ?_⟩
 ·have hof := hF.op h0 (by omega)
  rw [hF.size, ← hby hof]
  unfold szN
  rw [if_neg (by omega), if_pos (by omega)]
 ·have hk11 : d.kind = 11 := by omega
  have hof := har hk11
  have hql : x.2 < d.cnts.length := by
   rcases hF.ofk (.inl hk11) with h | h
   ·exact h
   ·exact absurd hk11 h
  have hlast := hn.2 hk11
  have hcnt := hF.count
  rw [if_pos hk11] at hcnt
  have hgd : d.cnts.getD x.2 0 = d.cnts[x.2] := by rw [List.getD_eq_getElem?_getD, List.getElem?_eq_getElem hql]; rfl
  have hdrop : d.cnts.drop x.2 = [t.count] := by
   rw [List.drop_eq_getElem_cons hql, List.drop_eq_nil_of_le (by omega), hcnt, hgd]
  rw [hF.size, ← hby hof]
  unfold szN
  rw [if_neg (by omega), if_neg (by omega), if_pos hk11, hdrop]
  unfold szA szA
  rw [if_neg (by omega)]
end
set_option maxHeartbeats 40000000
theorem codeOfN_ok {Γ : Env} {H : List Blk} : Spc Tryz.prog 27 #[.nilIface] Γ H (fun v Γ' H' => Γ = Γ' ∧ H = H' ∧ v = .int .i64 0) := by
 refine Spc.body1 Tryz.func27 rfl Tryz.ntmps27 rfl ?_
 refine gz_ ?_
 exact end_1 rfl rfl (Env.le.rfl' _) ⟨rfl, rfl, rfl⟩
theorem Secs.to {Γ : Env} {F : List Blk} {pd : Nat} {big : Bool} {sr lin : List UInt8} {b b' : Nat} {u u' : PU} (h : Secs Γ F pd (uctx big sr lin b u)) : Secs Γ F pd (uctx big sr lin b' u') := ⟨h.str, h.lin, h.ord, h.sl, h.ll⟩
end Go.Proofs.YtbgkbgoonjkghaaGreatDoor
