/- Parts of the proof: Dv Dw Dx Dy Dz Ka Kb Kc. -/
import Derived.Test.YtbgkbgoonjkghaaGreatDoorA3
import Derived.Test.YtbgkbgoonjkghaaGreatDoorA6
import Derived.Test.YtbgkbgoonjkghaaGreatDoorA11
namespace Go.Proofs.YtbgkbgoonjkghaaGreatDoor
open Go Go.Sl
set_option maxRecDepth 10000
set_option maxHeartbeats 40000000
section
variable {Γ : Env} {pd pu : Nat} {l : Lay} {ds : List Df} {pm pf pr n : Nat} {nm : Value} {pe b6 b7 b8 b10 b11 b16 b17 b21 c : Nat} {O : List Nat} {B : BM} {es : List MapEntry} {td : TDs} {sl : Value} {Hv F : List Blk} {ou o : Obj} {j : Nat} {d : Df}
theorem sw10a (h : SWH Γ pd pu pm pf pr l ds n nm pe b6 b7 b8 b10 b11 b16 b21 O B es td sl Hv F ou o j d) (hk : d.kind = 10) (hw : d.which = 0) : SwG l ds d pu pm pf pr pe b6 b7 b8 b10 b11 b16 b17 b21 c O B es td sl Hv F ou o Γ j := by
 intro Q D hNP
 have hok := h.ok
 have htp : tyP d.kind = 212 := by rw [hk]; rfl
 have hto : tyO d.kind = 215 := by rw [hk]; rfl
 have hkd : kindS d.which = sStruct := by rw [hw]; rfl
 obtain ⟨htag, hv3, hv60, hv11⟩ := hd10 (v := l.vers) (l := l) (ds := ds) hok.d0.s0 hok.d0.s1 hk
 rw [show tagSt d.which = 19 by rw [hw]; rfl] at htag
 have hcmp : (sStruct.toList == sUnion.toList) = false := by rw [toList_data, toList_data]; rfl
 have hbx := h.bx
 have hK : defK l (PLI l ds) d = d.mems.map (memN l (PLI l ds)) := by unfold defK; rw [if_pos hk]
 have hKf : ∀ x ∈ d.mems, 0 < (memN l (PLI l ds) x).tag ∧ (memN l (PLI l ds) x).ch = false ∧ (memN l (PLI l ds) x).sib = false := fun x _ => ⟨by show (0 : Int) < 13; decide, rfl, rfl⟩
 have hcl := hok.d0.meml
 unfold SwR
 rw [htag, htp, hto]
 have g10 := h.bx.c10
 have g16 := h.bx.c16
 have te := h.ent.tag
 rw [htag] at te
 obtain ⟨hkeys, hmiss⟩ := h.key
 refine hz_ ?_
 (refine WL.alloc tab_ok rfl rfl ?_; intro b)
 refine WL.fresh (b := b) pk_ (fun hfr => ?_)
 have hop := h.open_ htp hfr
 refine hz_ ?_
 refine WL.mapNew tab_ok rfl rfl rfl rfl rfl pk_ hkeys hmiss ?_
 refine hz_ ?_
 refine WL.call rfl Tryz.call65 rfl rfl (by exact (h.ent.val 3)) ?_
 rw [hv3]
 rintro v _ _ - ⟨rfl, rfl, hv⟩
 obtain rfl : v = .iface 9 (.string d.name) := hv
 refine hz_ ?_
 refine WL.call rfl Tryz.call65 rfl rfl (by exact (h.ent.val 60)) ?_
 rw [hv60]
 rintro v _ _ - ⟨rfl, rfl, hv⟩
 cases hi : d.inc with
 | true =>
  rw [hi] at hv hv11
  obtain rfl : v = .iface 4 (.bool true) := hv
  have hm0 : d.mems = [] := List.eq_nil_of_length_eq_zero (hok.inc hi).2
  refine hz_ ?_
  refine WL.make2 tab_ok rfl rfl rfl rfl rfl rfl rfl rfl (by omega) (by omega) (by omega) (by omega) rfl ?_
  intro bm
  refine hz_ ?_
  refine WL.call rfl Tryz.call63 rfl rfl (by exact (h.next hK hKf (Env.le.rfl' _) h.ux pk_ pk_ h.rd (Nat.zero_le _))) ?_
  rintro v43 Γ2 _ hle2 ⟨o2, rfl, hnx⟩
  rw [hm0] at hnx
  obtain rfl : v43 = .pointer none := hnx
  have g16' := hle2.cell g16
  refine hz_ ?_
  refine WC.loop2 ?_
  refine hz_ ?_
  rw [hcmp]
  refine hz_ ?_
  refine WL.call rfl Tryz.call65 rfl rfl (by exact ((h.ent.mono hle2).val 11)) ?_
  rw [hv11]
  rintro v _ _ - ⟨rfl, rfl, hv⟩
  obtain rfl : v = .nilIface := hv
  refine hz_ ?_
  refine WE.keep (Ow.room (s := 1) (b := bm) (m := 0) (k := 8) (l := []) (sp := reps 8 [.pointer none]) (T := 217) (Nat.zero_le _) rfl (by simp [reps_length])) t1_ (fun Γ4 hle4 him => ?_)
  have hA : Arr Γ4 (MemO Γ4 (B.put j 0 b) ds) (.slice (some ⟨bm, 0, none⟩) 0 8) d.mems := by rw [hm0]; exact Im.arr (xs := []) him rfl
  have hle24 := hle2.trans hle4
  exact WE.mid ⟨o2, ou, _, c + 1, sl, td, Hv, _, b, [noStr, .string d.name, .string sStruct, .slice (some ⟨bm, 0, none⟩) 0 8, .bool true], rfl, hle24, rfl, h.ux.mono hle24, hop.ts.mono hle24, h.ow, hop.ext, BM.put_same, by unfold FinC; rw [if_neg (by omega), if_pos hk, hkd, hi]; exact ⟨_, rfl, hA⟩⟩ sr_ sn_
 | false =>
  rw [hi] at hv hv11
  obtain rfl : v = .nilIface := hv
  refine hz_ ?_
  refine WL.make2 tab_ok rfl rfl rfl rfl rfl rfl rfl rfl (by omega) (by omega) (by omega) (by omega) rfl ?_
  intro bm
  refine hz_ ?_
  refine WL.call rfl Tryz.call63 rfl rfl (by exact (h.next hK hKf (Env.le.rfl' _) h.ux pk_ pk_ h.rd (Nat.zero_le _))) ?_
  rintro v43 Γ2 _ hle2 ⟨o2, rfl, hnx⟩
  refine hz_ ?_
  refine WC.loopE (fun m R' Γ' H' => ∃ k vs vals v26 o' Hd ou' es' c' sl' td' Hv' B' a40 z42, R' = [(3, .int .u32 ((nodO l ds (rtI ds j) : Nat) : Int)), (11, .pointer (some ⟨b11, 0, none⟩)), (16, .pointer (some ⟨b16, 0, none⟩)), (17, .pointer (some ⟨b17, 0, none⟩)), (18, .int .i64 l.size), (20, pkey 212 b), (22, .func (.func 63) #[] #[.pointer (some ⟨b16, 0, none⟩), .pointer (some ⟨b8, 0, none⟩), .pointer (some ⟨b17, 0, none⟩), .pointer (some ⟨b7, 0, none⟩), .pointer (some ⟨b21, 0, none⟩)]), (23, .func (.func 64) #[] #[.pointer (some ⟨b6, 0, none⟩), .pointer (some ⟨b7, 0, none⟩), .pointer (some ⟨b8, 0, none⟩), .pointer (some ⟨b10, 0, none⟩), .pointer (some ⟨b11, 0, none⟩), .pointer (some ⟨b17, 0, none⟩)]), (39, .pointer (some ⟨b, 0, none⟩)), (40, .pointer a40), (41, .int .i64 0), (42, .int .i64 z42), (43, v26)] ∧ m = d.mems.length - k ∧ k ≤ d.mems.length ∧ Γ2.le Γ' ∧ Ow 1 vs k vals Hd ∧ LisC (MemO Γ' B' ds) (d.mems.take k) vals ∧
    KidN Γ' pd pu l ds j k v26 o' ((d.mems[k]?).map (memN l (PLI l ds))) ∧ UX Γ' l ds ou' ∧ TS Γ' l ds (j :: O) B' es' td' ∧ Ow 1 sl' td'.length (tdP td') Hv' ∧ BM.ext (j :: O) (B.put j 0 b) B' ∧ (k = 0 → a40 = none ∧ z42 = 0) ∧ (0 < k → z42 = lastO d.mems k) ∧
    H' = RSH pu ou' pm es' c' pf sl' td' Hv' ((b17, cel [.nilIface] 77) :: (b, cel [.int .i64 0, noStr, .string d.name, .string sStruct, vs, .bool false] 215) :: (pr, o') :: (Hd ++ F)))
   ⟨0, .slice (some ⟨bm, 0, none⟩) 0 8, [], v43, o2, [(bm, cel (reps 8 [.pointer none]) 217)], ou, _, c + 1, sl, td, Hv, _, none, 0, rfl, rfl, Nat.zero_le _, Env.le.rfl' _, Ow.room (l := []) (Nat.zero_le _) rfl (by simp [reps_length]), rfl, hnx, h.ux.mono hle2, hop.ts.mono hle2, h.ow, BM.ext.rfl' _ _, fun _ => ⟨rfl, rfl⟩, fun h => absurd h (Nat.lt_irrefl _), rfl⟩ sr_ sn_ ?_
  rintro m R' Γ3 H' ⟨k, vs, vals, v26', o3, Hd, ou3, es3, c3, sl3, td3, Hv3, B3, a40, z42, rfl, rfl, hkl, hle3, how3, hL3, hnx3, hu3, hS3, hsl3, hext3, hlast0, hlast1, rfl⟩
  have hle13 := hle2.trans hle3
  have g16' := hle13.cell g16
  have g11 := hle13.cell h.bx.c11
  rcases Nat.lt_or_ge k d.mems.length with hlt | hge
  case inr =>
   have ek : k = d.mems.length := by omega
   subst ek
   rw [List.getElem?_eq_none (Nat.le_refl _)] at hnx3
   obtain rfl : v26' = .pointer none := hnx3
   rw [List.take_length] at hL3
   obtain ⟨a9, c9, rfl⟩ := Ow.shape how3
   refine hz_ ?_
   rw [hcmp]
   refine hz_ ?_
   refine WL.call rfl Tryz.call65 rfl rfl (by exact ((h.ent.mono hle13).val 11)) ?_
   rw [hv11]
   rintro v _ _ - ⟨rfl, rfl, hv⟩
   obtain rfl : v = .iface 2 (.int .i64 d.size) := hv
   refine hz_ ?_
   refine WC.cutM (fun R' Γ' H' => R' = [(3, .int .u32 ((nodO l ds (rtI ds j) : Nat) : Int)), (11, .pointer (some ⟨b11, 0, none⟩)), (16, .pointer (some ⟨b16, 0, none⟩)), (17, .pointer (some ⟨b17, 0, none⟩)), (18, .int .i64 l.size), (20, pkey 212 b), (39, .pointer (some ⟨b, 0, none⟩))] ∧ Γ3 = Γ' ∧ H' = RSH pu ou3 pm es3 c3 pf sl3 td3 Hv3 ((b17, cel [.nilIface] 77) :: (b, cel [.int .i64 0, noStr, .string d.name, .string sStruct, .slice a9 d.mems.length c9, .bool false] 215) :: (pr, o3) :: (Hd ++ F))) ?_ ?_
   ·cases hq : (d.size == z42) with
    | false =>
     refine hz_ ?_
     exact WE.mid ⟨rfl, rfl, rfl⟩ sr_ sn_
    | true =>
     have hq' := beq_iff_eq.1 hq
     have hk0 : d.mems.length = 0 := by
      rcases Nat.eq_zero_or_pos d.mems.length with h0 | h0
      ·exact h0
      ·exfalso
       have h1 := hlast1 h0
       obtain ⟨q, hq2⟩ : ∃ q, d.mems.length = q + 1 := ⟨d.mems.length - 1, by omega⟩
       obtain ⟨y, hy⟩ : ∃ y, d.mems[q]? = some y := ⟨_, List.getElem?_eq_getElem (by omega)⟩
       have hmy := (hok.mem q y hy).st (by omega)
       rw [hq2] at h1
       have e1 : lastO d.mems (q + 1) = y.off := by
        show (match d.mems[q]? with | some m => m.off | none => -1) = y.off
        rw [hy]
       omega
     obtain ⟨rfl, -⟩ := hlast0 hk0
     refine hz_ ?_
     refine WL.call rfl Tryz.call70 rfl rfl (by exact recordNil_ok) ?_
     rintro _ _ _ - ⟨rfl, rfl, rfl⟩
     refine hz_ ?_
     exact WE.mid ⟨rfl, rfl, rfl⟩ sr_ sn_
   rintro _ _ _ ⟨rfl, rfl, rfl⟩
   refine hz_ ?_
   refine WE.keep how3 tk_ (fun Γ4 hle4 him => ?_)
   have hA := Im.arr him (hL3.imp fun _ _ h => h.mono hle4 (BM.le.rfl' _))
   exact WE.mid ⟨o3, ou3, es3, c3, sl3, td3, Hv3, B3, b, [noStr, .string d.name, .string sStruct, .slice a9 d.mems.length c9, .bool false], rfl, hle13.trans hle4, rfl, hu3.mono hle4, hS3.mono hle4, hsl3, hop.ext.trans (hext3.sub fun x hx => List.mem_cons_of_mem _ hx), hext3.1 _ _ _ BM.put_same,
    by unfold FinC; rw [if_neg (by omega), if_pos hk, hkd, hi]; exact ⟨_, rfl, hA⟩⟩ sr_ sn_
  obtain ⟨x, hx⟩ : ∃ x, d.mems[k]? = some x := ⟨_, List.getElem?_eq_getElem hlt⟩
  rw [hx] at hnx3
  obtain ⟨pk, ofk, rfl, hE3, hR3⟩ := hnx3
  have hxk := hok.mem k x hx
  have hx0 := hxk.o0
  have hC := memN_says (v := l.vers) h.tx.ok hxk
  have t1 : Γ3.cell pk (0 + 1) = some (.int .u32 13) := hE3.tag
  have hxl : d.mems.take (k + 1) = d.mems.take k ++ [x] := by rw [List.take_add_one, hx]; rfl
  have hxo : lastO d.mems (k + 1) = x.off := by
   show (match d.mems[k]? with | some m => m.off | none => -1) = x.off
   rw [hx]
  obtain ⟨a9, c9, rfl⟩ := Ow.shape how3
  have hbx3 := hbx.mono hle13
  refine hz_ ?_
  (refine WL.alloc tab_ok rfl rfl ?_; intro bf)
  refine hz_ ?_
  refine WL.re' (H' := RSH pu ou3 pm es3 c3 pf sl3 td3 Hv3 ((b17, cel [.nilIface] 77) :: (b, cel [.int .i64 0, noStr, .string d.name, .string sStruct, .slice a9 k c9, .bool false] 215) :: (pr, o3) :: ((bf, cel [noStr, .nilIface, .int .i64 0, .int .i64 0, .int .i64 0, .int .i64 0, .int .i64 0] 219) :: Hd ++ F))) sn_ ?_
  refine WL.call rfl Tryz.call64 rfl rfl (by exact (typeOf_ok h.ih (h.tx.mono hle13) hu3 hS3 ((hop.op (G := (pr, o3) :: ((bf, cel [noStr, .nilIface, .int .i64 0, .int .i64 0, .int .i64 0, .int .i64 0, .int .i64 0] 219) :: Hd))).mono hle13 hext3.1) hsl3 (Nat.le_trans (missL_le hext3.1 _) hop.ms) hE3 hC.of (by have := hxk.of0; omega) hxk.of1 (Pick.there Pick.here) hR3 (.inl hbx3.c6) (.inl hbx3.c7) (.inl hbx3.c8) (.inl hbx3.c10) (.inl hbx3.c11))) ?_
  rintro _ Γ4 _ hle4 ⟨ou4, es4, c4, sl4, td4, Hv4, B4, hkv4, hext4, hu4, hS4, hsl4, rfl⟩
  obtain ⟨tv4, bv4, rfl⟩ := hkv4.ex
  have hE4 := hE3.mono hle4
  refine hz_ ?_
  refine WL.call rfl Tryz.call65 rfl rfl (by exact (hE4.val 56)) ?_
  rw [hC.off]
  rintro v _ _ - ⟨rfl, rfl, hv⟩
  obtain rfl : v = .iface 2 (.int .i64 x.off) := hv
  refine hz_ ?_
  refine WL.call rfl Tryz.call65 rfl rfl (by exact (hE4.val 3)) ?_
  rw [hC.nm]
  rintro v _ _ - ⟨rfl, rfl, hv⟩
  obtain rfl : v = .iface 9 (.string x.name) := hv
  refine hz_ ?_
  refine WL.call rfl Tryz.call65 rfl rfl (by exact (hE4.val 11)) ?_
  rw [hC.no 11 (by omega)]
  rintro v _ _ - ⟨rfl, rfl, hv⟩
  obtain rfl : v = .nilIface := hv
  refine hz_ ?_
  refine WL.call rfl Tryz.call65 rfl rfl (by exact (hE4.val 12)) ?_
  rw [hC.no 12 (by omega)]
  rintro v _ _ - ⟨rfl, rfl, hv⟩
  obtain rfl : v = .nilIface := hv
  refine hz_ ?_
  refine WL.call rfl Tryz.call65 rfl rfl (by exact (hE4.val 107)) ?_
  rw [hC.no 107 (by omega)]
  rintro v _ _ - ⟨rfl, rfl, hv⟩
  obtain rfl : v = .nilIface := hv
  refine hz_ ?_
  refine WL.call rfl Tryz.call65 rfl rfl (by exact (hE4.val 13)) ?_
  rw [hC.no 13 (by omega)]
  rintro v _ _ - ⟨rfl, rfl, hv⟩
  obtain rfl : v = .nilIface := hv
  refine hz_ ?_
  (refine WL.lit tab_ok rfl rfl rfl rfl rfl rfl rfl spi_ rfl ?_; intro bq)
  refine hz_ ?_
  refine WL.append tab_ok rfl rfl rfl rfl rfl rfl rfl rfl how3 tk_ ((Ow.lit (s := 1) (b := bq) (k := 1) (l := [.pointer (some ⟨bf, 0, none⟩)]) (T := 217) rfl).src tab_ok rfl t1_ (by simp [Value.oneCell'])) (by omega) (by omega) (fun v5 Hs5 how5 => ?_)
  obtain ⟨a5, c5, rfl⟩ := Ow.shape how5
  refine hz_ ?_
  have g11' := hle4.cell g11
  cases hq : (z42 == x.off) with
  | false =>
   refine hz_ ?_
   refine WL.call rfl Tryz.call63 rfl rfl (by exact (h.next hK hKf (hle13.trans hle4) hu4 pk_ pk_ (hR3.mono hle4) hlt)) ?_
   rintro v6 Γ6 _ hle6 ⟨o6, rfl, hnx6⟩
   refine hz_ ?_
   refine WE.freeze (b := bf) pk_ (fun hleb => ?_)
   have hle46 := hle4.trans (hle6.trans hleb)
   have hmO : MemO (Γ6.add bf (cel [.string x.name, pkey tv4 bv4, .int .i64 x.off, .int .i64 0, .int .i64 0, .int .i64 0, .int .i64 0] 219)) B4 ds x [.pointer (some ⟨bf, 0, none⟩)] := ⟨bf, pkey tv4 bv4, rfl, by simp [Env.add], hkv4.mono (hle6.trans hleb) (BM.le.rfl' _)⟩
   exact WE.again ⟨k + 1, .slice a5 (k + 1) c5, vals ++ [.pointer (some ⟨bf, 0, none⟩)], v6, o6, Hs5, ou4, es4, c4, sl4, td4, Hv4, B4, some ⟨bf, 0 + 1, none⟩, x.off, rfl, rfl, hlt, hle3.trans hle46, how5, by rw [hxl]; exact LisC.append (hL3.imp fun _ _ h => h.mono hle46 hext4.1) (LisC.one hmO), hnx6.mono hleb, hu4.mono (hle6.trans hleb), hS4.mono (hle6.trans hleb), hsl4, hext3.trans hext4, fun h => (by omega), fun _ => hxo.symm, rfl⟩ (by omega) sr_ sn_
  | true =>
   have hq' := beq_iff_eq.1 hq
   have hk0 : k = 0 := by
    rcases Nat.eq_zero_or_pos k with h0 | h0
    ·exact h0
    ·have h1 := hlast1 h0
     have h2 := (hxk.st (by omega)).1
     omega
   obtain ⟨rfl, -⟩ := hlast0 hk0
   refine hz_ ?_
   rw [hcmp]
   refine hz_ ?_
   refine WL.call rfl Tryz.call70 rfl rfl (by exact recordNil_ok) ?_
   rintro _ _ _ - ⟨rfl, rfl, rfl⟩
   refine hz_ ?_
   refine WL.call rfl Tryz.call63 rfl rfl (by exact (h.next hK hKf (hle13.trans hle4) hu4 pk_ pk_ (hR3.mono hle4) hlt)) ?_
   rintro v6 Γ6 _ hle6 ⟨o6, rfl, hnx6⟩
   refine hz_ ?_
   refine WE.freeze (b := bf) pk_ (fun hleb => ?_)
   have hle46 := hle4.trans (hle6.trans hleb)
   have hmO : MemO (Γ6.add bf (cel [.string x.name, pkey tv4 bv4, .int .i64 x.off, .int .i64 0, .int .i64 0, .int .i64 0, .int .i64 0] 219)) B4 ds x [.pointer (some ⟨bf, 0, none⟩)] := ⟨bf, pkey tv4 bv4, rfl, by simp [Env.add], hkv4.mono (hle6.trans hleb) (BM.le.rfl' _)⟩
   exact WE.again ⟨k + 1, .slice a5 (k + 1) c5, vals ++ [.pointer (some ⟨bf, 0, none⟩)], v6, o6, Hs5, ou4, es4, c4, sl4, td4, Hv4, B4, some ⟨bf, 0 + 1, none⟩, x.off, rfl, rfl, hlt, hle3.trans hle46, how5, by rw [hxl]; exact LisC.append (hL3.imp fun _ _ h => h.mono hle46 hext4.1) (LisC.one hmO), hnx6.mono hleb, hu4.mono (hle6.trans hleb), hS4.mono (hle6.trans hleb), hsl4, hext3.trans hext4, fun h => (by omega), fun _ => hxo.symm, rfl⟩ (by omega) sr_ sn_
theorem sw10b (h : SWH Γ pd pu pm pf pr l ds n nm pe b6 b7 b8 b10 b11 b16 b21 O B es td sl Hv F ou o j d) (hk : d.kind = 10) (hw : d.which = 1) : SwG l ds d pu pm pf pr pe b6 b7 b8 b10 b11 b16 b17 b21 c O B es td sl Hv F ou o Γ j := by
 intro Q D hNP
 have hok := h.ok
 have htp : tyP d.kind = 212 := by rw [hk]; rfl
 have hto : tyO d.kind = 215 := by rw [hk]; rfl
 have hkd : kindS d.which = sUnion := by rw [hw]; rfl
 obtain ⟨htag, hv3, hv60, hv11⟩ := hd10 (v := l.vers) (l := l) (ds := ds) hok.d0.s0 hok.d0.s1 hk
 rw [show tagSt d.which = 23 by rw [hw]; rfl] at htag
 have hcmp : (sUnion.toList == sUnion.toList) = true := beq_self_eq_true _
 have hbx := h.bx
 have hK : defK l (PLI l ds) d = d.mems.map (memN l (PLI l ds)) := by unfold defK; rw [if_pos hk]
 have hKf : ∀ x ∈ d.mems, 0 < (memN l (PLI l ds) x).tag ∧ (memN l (PLI l ds) x).ch = false ∧ (memN l (PLI l ds) x).sib = false := fun x _ => ⟨by show (0 : Int) < 13; decide, rfl, rfl⟩
 have hcl := hok.d0.meml
 unfold SwR
 rw [htag, htp, hto]
 have g10 := h.bx.c10
 have g16 := h.bx.c16
 have te := h.ent.tag
 rw [htag] at te
 obtain ⟨hkeys, hmiss⟩ := h.key
 refine hz_ ?_
 (refine WL.alloc tab_ok rfl rfl ?_; intro b)
 refine WL.fresh (b := b) pk_ (fun hfr => ?_)
 have hop := h.open_ htp hfr
 refine hz_ ?_
 refine WL.mapNew tab_ok rfl rfl rfl rfl rfl pk_ hkeys hmiss ?_
 refine hz_ ?_
 refine WL.call rfl Tryz.call65 rfl rfl (by exact (h.ent.val 3)) ?_
 rw [hv3]
 rintro v _ _ - ⟨rfl, rfl, hv⟩
 obtain rfl : v = .iface 9 (.string d.name) := hv
 refine hz_ ?_
 refine WL.call rfl Tryz.call65 rfl rfl (by exact (h.ent.val 60)) ?_
 rw [hv60]
 rintro v _ _ - ⟨rfl, rfl, hv⟩
 cases hi : d.inc with
 | true =>
  rw [hi] at hv hv11
  obtain rfl : v = .iface 4 (.bool true) := hv
  have hm0 : d.mems = [] := List.eq_nil_of_length_eq_zero (hok.inc hi).2
  refine hz_ ?_
  refine WL.make2 tab_ok rfl rfl rfl rfl rfl rfl rfl rfl (by omega) (by omega) (by omega) (by omega) rfl ?_
  intro bm
  refine hz_ ?_
  refine WL.call rfl Tryz.call63 rfl rfl (by exact (h.next hK hKf (Env.le.rfl' _) h.ux pk_ pk_ h.rd (Nat.zero_le _))) ?_
  rintro v43 Γ2 _ hle2 ⟨o2, rfl, hnx⟩
  rw [hm0] at hnx
  obtain rfl : v43 = .pointer none := hnx
  have g16' := hle2.cell g16
  refine hz_ ?_
  refine WC.loop2 ?_
  refine hz_ ?_
  rw [hcmp]
  refine hz_ ?_
  refine WE.keep (Ow.room (s := 1) (b := bm) (m := 0) (k := 8) (l := []) (sp := reps 8 [.pointer none]) (T := 217) (Nat.zero_le _) rfl (by simp [reps_length])) t1_ (fun Γ4 hle4 him => ?_)
  have hA : Arr Γ4 (MemO Γ4 (B.put j 0 b) ds) (.slice (some ⟨bm, 0, none⟩) 0 8) d.mems := by rw [hm0]; exact Im.arr (xs := []) him rfl
  have hle24 := hle2.trans hle4
  exact WE.mid ⟨o2, ou, _, c + 1, sl, td, Hv, _, b, [noStr, .string d.name, .string sUnion, .slice (some ⟨bm, 0, none⟩) 0 8, .bool true], rfl, hle24, rfl, h.ux.mono hle24, hop.ts.mono hle24, h.ow, hop.ext, BM.put_same, by unfold FinC; rw [if_neg (by omega), if_pos hk, hkd, hi]; exact ⟨_, rfl, hA⟩⟩ sr_ sn_
 | false =>
  rw [hi] at hv hv11
  obtain rfl : v = .nilIface := hv
  refine hz_ ?_
  refine WL.make2 tab_ok rfl rfl rfl rfl rfl rfl rfl rfl (by omega) (by omega) (by omega) (by omega) rfl ?_
  intro bm
  refine hz_ ?_
  refine WL.call rfl Tryz.call63 rfl rfl (by exact (h.next hK hKf (Env.le.rfl' _) h.ux pk_ pk_ h.rd (Nat.zero_le _))) ?_
  rintro v43 Γ2 _ hle2 ⟨o2, rfl, hnx⟩
  refine hz_ ?_
  refine WC.loopE (fun m R' Γ' H' => ∃ k vs vals v26 o' Hd ou' es' c' sl' td' Hv' B' a40 z42, R' = [(3, .int .u32 ((nodO l ds (rtI ds j) : Nat) : Int)), (11, .pointer (some ⟨b11, 0, none⟩)), (16, .pointer (some ⟨b16, 0, none⟩)), (17, .pointer (some ⟨b17, 0, none⟩)), (18, .int .i64 l.size), (20, pkey 212 b), (22, .func (.func 63) #[] #[.pointer (some ⟨b16, 0, none⟩), .pointer (some ⟨b8, 0, none⟩), .pointer (some ⟨b17, 0, none⟩), .pointer (some ⟨b7, 0, none⟩), .pointer (some ⟨b21, 0, none⟩)]), (23, .func (.func 64) #[] #[.pointer (some ⟨b6, 0, none⟩), .pointer (some ⟨b7, 0, none⟩), .pointer (some ⟨b8, 0, none⟩), .pointer (some ⟨b10, 0, none⟩), .pointer (some ⟨b11, 0, none⟩), .pointer (some ⟨b17, 0, none⟩)]), (39, .pointer (some ⟨b, 0, none⟩)), (40, .pointer a40), (41, .int .i64 0), (42, .int .i64 z42), (43, v26)] ∧ m = d.mems.length - k ∧ k ≤ d.mems.length ∧ Γ2.le Γ' ∧ Ow 1 vs k vals Hd ∧ LisC (MemO Γ' B' ds) (d.mems.take k) vals ∧
    KidN Γ' pd pu l ds j k v26 o' ((d.mems[k]?).map (memN l (PLI l ds))) ∧ UX Γ' l ds ou' ∧ TS Γ' l ds (j :: O) B' es' td' ∧ Ow 1 sl' td'.length (tdP td') Hv' ∧ BM.ext (j :: O) (B.put j 0 b) B' ∧ (k = 0 → a40 = none ∧ z42 = 0) ∧ (0 < k → z42 = lastO d.mems k) ∧
    H' = RSH pu ou' pm es' c' pf sl' td' Hv' ((b17, cel [.nilIface] 77) :: (b, cel [.int .i64 0, noStr, .string d.name, .string sUnion, vs, .bool false] 215) :: (pr, o') :: (Hd ++ F)))
   ⟨0, .slice (some ⟨bm, 0, none⟩) 0 8, [], v43, o2, [(bm, cel (reps 8 [.pointer none]) 217)], ou, _, c + 1, sl, td, Hv, _, none, 0, rfl, rfl, Nat.zero_le _, Env.le.rfl' _, Ow.room (l := []) (Nat.zero_le _) rfl (by simp [reps_length]), rfl, hnx, h.ux.mono hle2, hop.ts.mono hle2, h.ow, BM.ext.rfl' _ _, fun _ => ⟨rfl, rfl⟩, fun h => absurd h (Nat.lt_irrefl _), rfl⟩ sr_ sn_ ?_
  rintro m R' Γ3 H' ⟨k, vs, vals, v26', o3, Hd, ou3, es3, c3, sl3, td3, Hv3, B3, a40, z42, rfl, rfl, hkl, hle3, how3, hL3, hnx3, hu3, hS3, hsl3, hext3, hlast0, hlast1, rfl⟩
  have hle13 := hle2.trans hle3
  have g16' := hle13.cell g16
  have g11 := hle13.cell h.bx.c11
  rcases Nat.lt_or_ge k d.mems.length with hlt | hge
  case inr =>
   have ek : k = d.mems.length := by omega
   subst ek
   rw [List.getElem?_eq_none (Nat.le_refl _)] at hnx3
   obtain rfl : v26' = .pointer none := hnx3
   rw [List.take_length] at hL3
   obtain ⟨a9, c9, rfl⟩ := Ow.shape how3
   refine hz_ ?_
   rw [hcmp]
   refine hz_ ?_
   refine WE.keep how3 tk_ (fun Γ4 hle4 him => ?_)
   have hA := Im.arr him (hL3.imp fun _ _ h => h.mono hle4 (BM.le.rfl' _))
   exact WE.mid ⟨o3, ou3, es3, c3, sl3, td3, Hv3, B3, b, [noStr, .string d.name, .string sUnion, .slice a9 d.mems.length c9, .bool false], rfl, hle13.trans hle4, rfl, hu3.mono hle4, hS3.mono hle4, hsl3, hop.ext.trans (hext3.sub fun x hx => List.mem_cons_of_mem _ hx), hext3.1 _ _ _ BM.put_same,
    by unfold FinC; rw [if_neg (by omega), if_pos hk, hkd, hi]; exact ⟨_, rfl, hA⟩⟩ sr_ sn_
  obtain ⟨x, hx⟩ : ∃ x, d.mems[k]? = some x := ⟨_, List.getElem?_eq_getElem hlt⟩
  rw [hx] at hnx3
  obtain ⟨pk, ofk, rfl, hE3, hR3⟩ := hnx3
  have hxk := hok.mem k x hx
  have hx0 := hxk.o0
  have hC := memN_says (v := l.vers) h.tx.ok hxk
  have t1 : Γ3.cell pk (0 + 1) = some (.int .u32 13) := hE3.tag
  have hxl : d.mems.take (k + 1) = d.mems.take k ++ [x] := by rw [List.take_add_one, hx]; rfl
  have hxo : lastO d.mems (k + 1) = x.off := by
   show (match d.mems[k]? with | some m => m.off | none => -1) = x.off
   rw [hx]
  obtain ⟨a9, c9, rfl⟩ := Ow.shape how3
  have hbx3 := hbx.mono hle13
  refine hz_ ?_
  (refine WL.alloc tab_ok rfl rfl ?_; intro bf)
  refine hz_ ?_
  refine WL.re' (H' := RSH pu ou3 pm es3 c3 pf sl3 td3 Hv3 ((b17, cel [.nilIface] 77) :: (b, cel [.int .i64 0, noStr, .string d.name, .string sUnion, .slice a9 k c9, .bool false] 215) :: (pr, o3) :: ((bf, cel [noStr, .nilIface, .int .i64 0, .int .i64 0, .int .i64 0, .int .i64 0, .int .i64 0] 219) :: Hd ++ F))) sn_ ?_
  refine WL.call rfl Tryz.call64 rfl rfl (by exact (typeOf_ok h.ih (h.tx.mono hle13) hu3 hS3 ((hop.op (G := (pr, o3) :: ((bf, cel [noStr, .nilIface, .int .i64 0, .int .i64 0, .int .i64 0, .int .i64 0, .int .i64 0] 219) :: Hd))).mono hle13 hext3.1) hsl3 (Nat.le_trans (missL_le hext3.1 _) hop.ms) hE3 hC.of (by have := hxk.of0; omega) hxk.of1 (Pick.there Pick.here) hR3 (.inl hbx3.c6) (.inl hbx3.c7) (.inl hbx3.c8) (.inl hbx3.c10) (.inl hbx3.c11))) ?_
  rintro _ Γ4 _ hle4 ⟨ou4, es4, c4, sl4, td4, Hv4, B4, hkv4, hext4, hu4, hS4, hsl4, rfl⟩
  obtain ⟨tv4, bv4, rfl⟩ := hkv4.ex
  have hE4 := hE3.mono hle4
  refine hz_ ?_
  refine WL.call rfl Tryz.call65 rfl rfl (by exact (hE4.val 56)) ?_
  rw [hC.off]
  rintro v _ _ - ⟨rfl, rfl, hv⟩
  obtain rfl : v = .iface 2 (.int .i64 x.off) := hv
  refine hz_ ?_
  refine WL.call rfl Tryz.call65 rfl rfl (by exact (hE4.val 3)) ?_
  rw [hC.nm]
  rintro v _ _ - ⟨rfl, rfl, hv⟩
  obtain rfl : v = .iface 9 (.string x.name) := hv
  refine hz_ ?_
  refine WL.call rfl Tryz.call65 rfl rfl (by exact (hE4.val 11)) ?_
  rw [hC.no 11 (by omega)]
  rintro v _ _ - ⟨rfl, rfl, hv⟩
  obtain rfl : v = .nilIface := hv
  refine hz_ ?_
  refine WL.call rfl Tryz.call65 rfl rfl (by exact (hE4.val 12)) ?_
  rw [hC.no 12 (by omega)]
  rintro v _ _ - ⟨rfl, rfl, hv⟩
  obtain rfl : v = .nilIface := hv
  refine hz_ ?_
  refine WL.call rfl Tryz.call65 rfl rfl (by exact (hE4.val 107)) ?_
  rw [hC.no 107 (by omega)]
  rintro v _ _ - ⟨rfl, rfl, hv⟩
  obtain rfl : v = .nilIface := hv
  refine hz_ ?_
  refine WL.call rfl Tryz.call65 rfl rfl (by exact (hE4.val 13)) ?_
  rw [hC.no 13 (by omega)]
  rintro v _ _ - ⟨rfl, rfl, hv⟩
  obtain rfl : v = .nilIface := hv
  refine hz_ ?_
  (refine WL.lit tab_ok rfl rfl rfl rfl rfl rfl rfl spi_ rfl ?_; intro bq)
  refine hz_ ?_
  refine WL.append tab_ok rfl rfl rfl rfl rfl rfl rfl rfl how3 tk_ ((Ow.lit (s := 1) (b := bq) (k := 1) (l := [.pointer (some ⟨bf, 0, none⟩)]) (T := 217) rfl).src tab_ok rfl t1_ (by simp [Value.oneCell'])) (by omega) (by omega) (fun v5 Hs5 how5 => ?_)
  obtain ⟨a5, c5, rfl⟩ := Ow.shape how5
  refine hz_ ?_
  have g11' := hle4.cell g11
  cases hq : (z42 == x.off) with
  | false =>
   refine hz_ ?_
   refine WL.call rfl Tryz.call63 rfl rfl (by exact (h.next hK hKf (hle13.trans hle4) hu4 pk_ pk_ (hR3.mono hle4) hlt)) ?_
   rintro v6 Γ6 _ hle6 ⟨o6, rfl, hnx6⟩
   refine hz_ ?_
   refine WE.freeze (b := bf) pk_ (fun hleb => ?_)
   have hle46 := hle4.trans (hle6.trans hleb)
   have hmO : MemO (Γ6.add bf (cel [.string x.name, pkey tv4 bv4, .int .i64 x.off, .int .i64 0, .int .i64 0, .int .i64 0, .int .i64 0] 219)) B4 ds x [.pointer (some ⟨bf, 0, none⟩)] := ⟨bf, pkey tv4 bv4, rfl, by simp [Env.add], hkv4.mono (hle6.trans hleb) (BM.le.rfl' _)⟩
   exact WE.again ⟨k + 1, .slice a5 (k + 1) c5, vals ++ [.pointer (some ⟨bf, 0, none⟩)], v6, o6, Hs5, ou4, es4, c4, sl4, td4, Hv4, B4, some ⟨bf, 0 + 1, none⟩, x.off, rfl, rfl, hlt, hle3.trans hle46, how5, by rw [hxl]; exact LisC.append (hL3.imp fun _ _ h => h.mono hle46 hext4.1) (LisC.one hmO), hnx6.mono hleb, hu4.mono (hle6.trans hleb), hS4.mono (hle6.trans hleb), hsl4, hext3.trans hext4, fun h => (by omega), fun _ => hxo.symm, rfl⟩ (by omega) sr_ sn_
  | true =>
   refine hz_ ?_
   rw [hcmp]
   refine hz_ ?_
   refine WL.call rfl Tryz.call63 rfl rfl (by exact (h.next hK hKf (hle13.trans hle4) hu4 pk_ pk_ (hR3.mono hle4) hlt)) ?_
   rintro v6 Γ6 _ hle6 ⟨o6, rfl, hnx6⟩
   refine hz_ ?_
   refine WE.freeze (b := bf) pk_ (fun hleb => ?_)
   have hle46 := hle4.trans (hle6.trans hleb)
   have hmO : MemO (Γ6.add bf (cel [.string x.name, pkey tv4 bv4, .int .i64 x.off, .int .i64 0, .int .i64 0, .int .i64 0, .int .i64 0] 219)) B4 ds x [.pointer (some ⟨bf, 0, none⟩)] := ⟨bf, pkey tv4 bv4, rfl, by simp [Env.add], hkv4.mono (hle6.trans hleb) (BM.le.rfl' _)⟩
   exact WE.again ⟨k + 1, .slice a5 (k + 1) c5, vals ++ [.pointer (some ⟨bf, 0, none⟩)], v6, o6, Hs5, ou4, es4, c4, sl4, td4, Hv4, B4, some ⟨bf, 0 + 1, none⟩, x.off, rfl, rfl, hlt, hle3.trans hle46, how5, by rw [hxl]; exact LisC.append (hL3.imp fun _ _ h => h.mono hle46 hext4.1) (LisC.one hmO), hnx6.mono hleb, hu4.mono (hle6.trans hleb), hS4.mono (hle6.trans hleb), hsl4, hext3.trans hext4, fun h => (by omega), fun _ => hxo.symm, rfl⟩ (by omega) sr_ sn_
theorem sw10c (h : SWH Γ pd pu pm pf pr l ds n nm pe b6 b7 b8 b10 b11 b16 b21 O B es td sl Hv F ou o j d) (hk : d.kind = 10) (hw : d.which = 2) : SwG l ds d pu pm pf pr pe b6 b7 b8 b10 b11 b16 b17 b21 c O B es td sl Hv F ou o Γ j := by
 intro Q D hNP
 have hok := h.ok
 have htp : tyP d.kind = 212 := by rw [hk]; rfl
 have hto : tyO d.kind = 215 := by rw [hk]; rfl
 have hkd : kindS d.which = sClass := by rw [hw]; rfl
 obtain ⟨htag, hv3, hv60, hv11⟩ := hd10 (v := l.vers) (l := l) (ds := ds) hok.d0.s0 hok.d0.s1 hk
 rw [show tagSt d.which = 2 by rw [hw]; rfl] at htag
 have hcmp : (sClass.toList == sUnion.toList) = false := by rw [toList_data, toList_data]; rfl
 have hbx := h.bx
 have hK : defK l (PLI l ds) d = d.mems.map (memN l (PLI l ds)) := by unfold defK; rw [if_pos hk]
 have hKf : ∀ x ∈ d.mems, 0 < (memN l (PLI l ds) x).tag ∧ (memN l (PLI l ds) x).ch = false ∧ (memN l (PLI l ds) x).sib = false := fun x _ => ⟨by show (0 : Int) < 13; decide, rfl, rfl⟩
 have hcl := hok.d0.meml
 unfold SwR
 rw [htag, htp, hto]
 have g10 := h.bx.c10
 have g16 := h.bx.c16
 have te := h.ent.tag
 rw [htag] at te
 obtain ⟨hkeys, hmiss⟩ := h.key
 refine hz_ ?_
 (refine WL.alloc tab_ok rfl rfl ?_; intro b)
 refine WL.fresh (b := b) pk_ (fun hfr => ?_)
 have hop := h.open_ htp hfr
 refine hz_ ?_
 refine WL.mapNew tab_ok rfl rfl rfl rfl rfl pk_ hkeys hmiss ?_
 refine hz_ ?_
 refine WL.call rfl Tryz.call65 rfl rfl (by exact (h.ent.val 3)) ?_
 rw [hv3]
 rintro v _ _ - ⟨rfl, rfl, hv⟩
 obtain rfl : v = .iface 9 (.string d.name) := hv
 refine hz_ ?_
 refine WL.call rfl Tryz.call65 rfl rfl (by exact (h.ent.val 60)) ?_
 rw [hv60]
 rintro v _ _ - ⟨rfl, rfl, hv⟩
 cases hi : d.inc with
 | true =>
  rw [hi] at hv hv11
  obtain rfl : v = .iface 4 (.bool true) := hv
  have hm0 : d.mems = [] := List.eq_nil_of_length_eq_zero (hok.inc hi).2
  refine hz_ ?_
  refine WL.make2 tab_ok rfl rfl rfl rfl rfl rfl rfl rfl (by omega) (by omega) (by omega) (by omega) rfl ?_
  intro bm
  refine hz_ ?_
  refine WL.call rfl Tryz.call63 rfl rfl (by exact (h.next hK hKf (Env.le.rfl' _) h.ux pk_ pk_ h.rd (Nat.zero_le _))) ?_
  rintro v43 Γ2 _ hle2 ⟨o2, rfl, hnx⟩
  rw [hm0] at hnx
  obtain rfl : v43 = .pointer none := hnx
  have g16' := hle2.cell g16
  refine hz_ ?_
  refine WC.loop2 ?_
  refine hz_ ?_
  rw [hcmp]
  refine hz_ ?_
  refine WL.call rfl Tryz.call65 rfl rfl (by exact ((h.ent.mono hle2).val 11)) ?_
  rw [hv11]
  rintro v _ _ - ⟨rfl, rfl, hv⟩
  obtain rfl : v = .nilIface := hv
  refine hz_ ?_
  refine WE.keep (Ow.room (s := 1) (b := bm) (m := 0) (k := 8) (l := []) (sp := reps 8 [.pointer none]) (T := 217) (Nat.zero_le _) rfl (by simp [reps_length])) t1_ (fun Γ4 hle4 him => ?_)
  have hA : Arr Γ4 (MemO Γ4 (B.put j 0 b) ds) (.slice (some ⟨bm, 0, none⟩) 0 8) d.mems := by rw [hm0]; exact Im.arr (xs := []) him rfl
  have hle24 := hle2.trans hle4
  exact WE.mid ⟨o2, ou, _, c + 1, sl, td, Hv, _, b, [noStr, .string d.name, .string sClass, .slice (some ⟨bm, 0, none⟩) 0 8, .bool true], rfl, hle24, rfl, h.ux.mono hle24, hop.ts.mono hle24, h.ow, hop.ext, BM.put_same, by unfold FinC; rw [if_neg (by omega), if_pos hk, hkd, hi]; exact ⟨_, rfl, hA⟩⟩ sr_ sn_
 | false =>
  rw [hi] at hv hv11
  obtain rfl : v = .nilIface := hv
  refine hz_ ?_
  refine WL.make2 tab_ok rfl rfl rfl rfl rfl rfl rfl rfl (by omega) (by omega) (by omega) (by omega) rfl ?_
  intro bm
  refine hz_ ?_
  refine WL.call rfl Tryz.call63 rfl rfl (by exact (h.next hK hKf (Env.le.rfl' _) h.ux pk_ pk_ h.rd (Nat.zero_le _))) ?_
  rintro v43 Γ2 _ hle2 ⟨o2, rfl, hnx⟩
  refine hz_ ?_
  refine WC.loopE (fun m R' Γ' H' => ∃ k vs vals v26 o' Hd ou' es' c' sl' td' Hv' B' a40 z42, R' = [(3, .int .u32 ((nodO l ds (rtI ds j) : Nat) : Int)), (11, .pointer (some ⟨b11, 0, none⟩)), (16, .pointer (some ⟨b16, 0, none⟩)), (17, .pointer (some ⟨b17, 0, none⟩)), (18, .int .i64 l.size), (20, pkey 212 b), (22, .func (.func 63) #[] #[.pointer (some ⟨b16, 0, none⟩), .pointer (some ⟨b8, 0, none⟩), .pointer (some ⟨b17, 0, none⟩), .pointer (some ⟨b7, 0, none⟩), .pointer (some ⟨b21, 0, none⟩)]), (23, .func (.func 64) #[] #[.pointer (some ⟨b6, 0, none⟩), .pointer (some ⟨b7, 0, none⟩), .pointer (some ⟨b8, 0, none⟩), .pointer (some ⟨b10, 0, none⟩), .pointer (some ⟨b11, 0, none⟩), .pointer (some ⟨b17, 0, none⟩)]), (39, .pointer (some ⟨b, 0, none⟩)), (40, .pointer a40), (41, .int .i64 0), (42, .int .i64 z42), (43, v26)] ∧ m = d.mems.length - k ∧ k ≤ d.mems.length ∧ Γ2.le Γ' ∧ Ow 1 vs k vals Hd ∧ LisC (MemO Γ' B' ds) (d.mems.take k) vals ∧
    KidN Γ' pd pu l ds j k v26 o' ((d.mems[k]?).map (memN l (PLI l ds))) ∧ UX Γ' l ds ou' ∧ TS Γ' l ds (j :: O) B' es' td' ∧ Ow 1 sl' td'.length (tdP td') Hv' ∧ BM.ext (j :: O) (B.put j 0 b) B' ∧ (k = 0 → a40 = none ∧ z42 = 0) ∧ (0 < k → z42 = lastO d.mems k) ∧
    H' = RSH pu ou' pm es' c' pf sl' td' Hv' ((b17, cel [.nilIface] 77) :: (b, cel [.int .i64 0, noStr, .string d.name, .string sClass, vs, .bool false] 215) :: (pr, o') :: (Hd ++ F)))
   ⟨0, .slice (some ⟨bm, 0, none⟩) 0 8, [], v43, o2, [(bm, cel (reps 8 [.pointer none]) 217)], ou, _, c + 1, sl, td, Hv, _, none, 0, rfl, rfl, Nat.zero_le _, Env.le.rfl' _, Ow.room (l := []) (Nat.zero_le _) rfl (by simp [reps_length]), rfl, hnx, h.ux.mono hle2, hop.ts.mono hle2, h.ow, BM.ext.rfl' _ _, fun _ => ⟨rfl, rfl⟩, fun h => absurd h (Nat.lt_irrefl _), rfl⟩ sr_ sn_ ?_
  rintro m R' Γ3 H' ⟨k, vs, vals, v26', o3, Hd, ou3, es3, c3, sl3, td3, Hv3, B3, a40, z42, rfl, rfl, hkl, hle3, how3, hL3, hnx3, hu3, hS3, hsl3, hext3, hlast0, hlast1, rfl⟩
  have hle13 := hle2.trans hle3
  have g16' := hle13.cell g16
  have g11 := hle13.cell h.bx.c11
  rcases Nat.lt_or_ge k d.mems.length with hlt | hge
  case inr =>
   have ek : k = d.mems.length := by omega
   subst ek
   rw [List.getElem?_eq_none (Nat.le_refl _)] at hnx3
   obtain rfl : v26' = .pointer none := hnx3
   rw [List.take_length] at hL3
   obtain ⟨a9, c9, rfl⟩ := Ow.shape how3
   refine hz_ ?_
   rw [hcmp]
   refine hz_ ?_
   refine WL.call rfl Tryz.call65 rfl rfl (by exact ((h.ent.mono hle13).val 11)) ?_
   rw [hv11]
   rintro v _ _ - ⟨rfl, rfl, hv⟩
   obtain rfl : v = .iface 2 (.int .i64 d.size) := hv
   refine hz_ ?_
   refine WC.cutM (fun R' Γ' H' => R' = [(3, .int .u32 ((nodO l ds (rtI ds j) : Nat) : Int)), (11, .pointer (some ⟨b11, 0, none⟩)), (16, .pointer (some ⟨b16, 0, none⟩)), (17, .pointer (some ⟨b17, 0, none⟩)), (18, .int .i64 l.size), (20, pkey 212 b), (39, .pointer (some ⟨b, 0, none⟩))] ∧ Γ3 = Γ' ∧ H' = RSH pu ou3 pm es3 c3 pf sl3 td3 Hv3 ((b17, cel [.nilIface] 77) :: (b, cel [.int .i64 0, noStr, .string d.name, .string sClass, .slice a9 d.mems.length c9, .bool false] 215) :: (pr, o3) :: (Hd ++ F))) ?_ ?_
   ·cases hq : (d.size == z42) with
    | false =>
     refine hz_ ?_
     exact WE.mid ⟨rfl, rfl, rfl⟩ sr_ sn_
    | true =>
     have hq' := beq_iff_eq.1 hq
     have hk0 : d.mems.length = 0 := by
      rcases Nat.eq_zero_or_pos d.mems.length with h0 | h0
      ·exact h0
      ·exfalso
       have h1 := hlast1 h0
       obtain ⟨q, hq2⟩ : ∃ q, d.mems.length = q + 1 := ⟨d.mems.length - 1, by omega⟩
       obtain ⟨y, hy⟩ : ∃ y, d.mems[q]? = some y := ⟨_, List.getElem?_eq_getElem (by omega)⟩
       have hmy := (hok.mem q y hy).st (by omega)
       rw [hq2] at h1
       have e1 : lastO d.mems (q + 1) = y.off := by
        show (match d.mems[q]? with | some m => m.off | none => -1) = y.off
        rw [hy]
       omega
     obtain ⟨rfl, -⟩ := hlast0 hk0
     refine hz_ ?_
     refine WL.call rfl Tryz.call70 rfl rfl (by exact recordNil_ok) ?_
     rintro _ _ _ - ⟨rfl, rfl, rfl⟩
     refine hz_ ?_
     exact WE.mid ⟨rfl, rfl, rfl⟩ sr_ sn_
   rintro _ _ _ ⟨rfl, rfl, rfl⟩
   refine hz_ ?_
   refine WE.keep how3 tk_ (fun Γ4 hle4 him => ?_)
   have hA := Im.arr him (hL3.imp fun _ _ h => h.mono hle4 (BM.le.rfl' _))
   exact WE.mid ⟨o3, ou3, es3, c3, sl3, td3, Hv3, B3, b, [noStr, .string d.name, .string sClass, .slice a9 d.mems.length c9, .bool false], rfl, hle13.trans hle4, rfl, hu3.mono hle4, hS3.mono hle4, hsl3, hop.ext.trans (hext3.sub fun x hx => List.mem_cons_of_mem _ hx), hext3.1 _ _ _ BM.put_same,
    by unfold FinC; rw [if_neg (by omega), if_pos hk, hkd, hi]; exact ⟨_, rfl, hA⟩⟩ sr_ sn_
  obtain ⟨x, hx⟩ : ∃ x, d.mems[k]? = some x := ⟨_, List.getElem?_eq_getElem hlt⟩
  rw [hx] at hnx3
  obtain ⟨pk, ofk, rfl, hE3, hR3⟩ := hnx3
  have hxk := hok.mem k x hx
  have hx0 := hxk.o0
  have hC := memN_says (v := l.vers) h.tx.ok hxk
  have t1 : Γ3.cell pk (0 + 1) = some (.int .u32 13) := hE3.tag
  have hxl : d.mems.take (k + 1) = d.mems.take k ++ [x] := by rw [List.take_add_one, hx]; rfl
  have hxo : lastO d.mems (k + 1) = x.off := by
   show (match d.mems[k]? with | some m => m.off | none => -1) = x.off
   rw [hx]
  obtain ⟨a9, c9, rfl⟩ := Ow.shape how3
  have hbx3 := hbx.mono hle13
  refine hz_ ?_
  (refine WL.alloc tab_ok rfl rfl ?_; intro bf)
  refine hz_ ?_
  refine WL.re' (H' := RSH pu ou3 pm es3 c3 pf sl3 td3 Hv3 ((b17, cel [.nilIface] 77) :: (b, cel [.int .i64 0, noStr, .string d.name, .string sClass, .slice a9 k c9, .bool false] 215) :: (pr, o3) :: ((bf, cel [noStr, .nilIface, .int .i64 0, .int .i64 0, .int .i64 0, .int .i64 0, .int .i64 0] 219) :: Hd ++ F))) sn_ ?_
  refine WL.call rfl Tryz.call64 rfl rfl (by exact (typeOf_ok h.ih (h.tx.mono hle13) hu3 hS3 ((hop.op (G := (pr, o3) :: ((bf, cel [noStr, .nilIface, .int .i64 0, .int .i64 0, .int .i64 0, .int .i64 0, .int .i64 0] 219) :: Hd))).mono hle13 hext3.1) hsl3 (Nat.le_trans (missL_le hext3.1 _) hop.ms) hE3 hC.of (by have := hxk.of0; omega) hxk.of1 (Pick.there Pick.here) hR3 (.inl hbx3.c6) (.inl hbx3.c7) (.inl hbx3.c8) (.inl hbx3.c10) (.inl hbx3.c11))) ?_
  rintro _ Γ4 _ hle4 ⟨ou4, es4, c4, sl4, td4, Hv4, B4, hkv4, hext4, hu4, hS4, hsl4, rfl⟩
  obtain ⟨tv4, bv4, rfl⟩ := hkv4.ex
  have hE4 := hE3.mono hle4
  refine hz_ ?_
  refine WL.call rfl Tryz.call65 rfl rfl (by exact (hE4.val 56)) ?_
  rw [hC.off]
  rintro v _ _ - ⟨rfl, rfl, hv⟩
  obtain rfl : v = .iface 2 (.int .i64 x.off) := hv
  refine hz_ ?_
  refine WL.call rfl Tryz.call65 rfl rfl (by exact (hE4.val 3)) ?_
  rw [hC.nm]
  rintro v _ _ - ⟨rfl, rfl, hv⟩
  obtain rfl : v = .iface 9 (.string x.name) := hv
  refine hz_ ?_
  refine WL.call rfl Tryz.call65 rfl rfl (by exact (hE4.val 11)) ?_
  rw [hC.no 11 (by omega)]
  rintro v _ _ - ⟨rfl, rfl, hv⟩
  obtain rfl : v = .nilIface := hv
  refine hz_ ?_
  refine WL.call rfl Tryz.call65 rfl rfl (by exact (hE4.val 12)) ?_
  rw [hC.no 12 (by omega)]
  rintro v _ _ - ⟨rfl, rfl, hv⟩
  obtain rfl : v = .nilIface := hv
  refine hz_ ?_
  refine WL.call rfl Tryz.call65 rfl rfl (by exact (hE4.val 107)) ?_
  rw [hC.no 107 (by omega)]
  rintro v _ _ - ⟨rfl, rfl, hv⟩
  obtain rfl : v = .nilIface := hv
  refine hz_ ?_
  refine WL.call rfl Tryz.call65 rfl rfl (by exact (hE4.val 13)) ?_
  rw [hC.no 13 (by omega)]
  rintro v _ _ - ⟨rfl, rfl, hv⟩
  obtain rfl : v = .nilIface := hv
  refine hz_ ?_
  (refine WL.lit tab_ok rfl rfl rfl rfl rfl rfl rfl spi_ rfl ?_; intro bq)
  refine hz_ ?_
  refine WL.append tab_ok rfl rfl rfl rfl rfl rfl rfl rfl how3 tk_ ((Ow.lit (s := 1) (b := bq) (k := 1) (l := [.pointer (some ⟨bf, 0, none⟩)]) (T := 217) rfl).src tab_ok rfl t1_ (by simp [Value.oneCell'])) (by omega) (by omega) (fun v5 Hs5 how5 => ?_)
  obtain ⟨a5, c5, rfl⟩ := Ow.shape how5
  refine hz_ ?_
  have g11' := hle4.cell g11
  cases hq : (z42 == x.off) with
  | false =>
   refine hz_ ?_
   refine WL.call rfl Tryz.call63 rfl rfl (by exact (h.next hK hKf (hle13.trans hle4) hu4 pk_ pk_ (hR3.mono hle4) hlt)) ?_
   rintro v6 Γ6 _ hle6 ⟨o6, rfl, hnx6⟩
   refine hz_ ?_
   refine WE.freeze (b := bf) pk_ (fun hleb => ?_)
   have hle46 := hle4.trans (hle6.trans hleb)
   have hmO : MemO (Γ6.add bf (cel [.string x.name, pkey tv4 bv4, .int .i64 x.off, .int .i64 0, .int .i64 0, .int .i64 0, .int .i64 0] 219)) B4 ds x [.pointer (some ⟨bf, 0, none⟩)] := ⟨bf, pkey tv4 bv4, rfl, by simp [Env.add], hkv4.mono (hle6.trans hleb) (BM.le.rfl' _)⟩
   exact WE.again ⟨k + 1, .slice a5 (k + 1) c5, vals ++ [.pointer (some ⟨bf, 0, none⟩)], v6, o6, Hs5, ou4, es4, c4, sl4, td4, Hv4, B4, some ⟨bf, 0 + 1, none⟩, x.off, rfl, rfl, hlt, hle3.trans hle46, how5, by rw [hxl]; exact LisC.append (hL3.imp fun _ _ h => h.mono hle46 hext4.1) (LisC.one hmO), hnx6.mono hleb, hu4.mono (hle6.trans hleb), hS4.mono (hle6.trans hleb), hsl4, hext3.trans hext4, fun h => (by omega), fun _ => hxo.symm, rfl⟩ (by omega) sr_ sn_
  | true =>
   have hq' := beq_iff_eq.1 hq
   have hk0 : k = 0 := by
    rcases Nat.eq_zero_or_pos k with h0 | h0
    ·exact h0
    ·have h1 := hlast1 h0
     have h2 := (hxk.st (by omega)).1
     omega
   obtain ⟨rfl, -⟩ := hlast0 hk0
   refine hz_ ?_
   rw [hcmp]
   refine hz_ ?_
   refine WL.call rfl Tryz.call70 rfl rfl (by exact recordNil_ok) ?_
   rintro _ _ _ - ⟨rfl, rfl, rfl⟩
   refine hz_ ?_
   refine WL.call rfl Tryz.call63 rfl rfl (by exact (h.next hK hKf (hle13.trans hle4) hu4 pk_ pk_ (hR3.mono hle4) hlt)) ?_
   rintro v6 Γ6 _ hle6 ⟨o6, rfl, hnx6⟩
   refine hz_ ?_
   refine WE.freeze (b := bf) pk_ (fun hleb => ?_)
   have hle46 := hle4.trans (hle6.trans hleb)
   have hmO : MemO (Γ6.add bf (cel [.string x.name, pkey tv4 bv4, .int .i64 x.off, .int .i64 0, .int .i64 0, .int .i64 0, .int .i64 0] 219)) B4 ds x [.pointer (some ⟨bf, 0, none⟩)] := ⟨bf, pkey tv4 bv4, rfl, by simp [Env.add], hkv4.mono (hle6.trans hleb) (BM.le.rfl' _)⟩
   exact WE.again ⟨k + 1, .slice a5 (k + 1) c5, vals ++ [.pointer (some ⟨bf, 0, none⟩)], v6, o6, Hs5, ou4, es4, c4, sl4, td4, Hv4, B4, some ⟨bf, 0 + 1, none⟩, x.off, rfl, rfl, hlt, hle3.trans hle46, how5, by rw [hxl]; exact LisC.append (hL3.imp fun _ _ h => h.mono hle46 hext4.1) (LisC.one hmO), hnx6.mono hleb, hu4.mono (hle6.trans hleb), hS4.mono (hle6.trans hleb), hsl4, hext3.trans hext4, fun h => (by omega), fun _ => hxo.symm, rfl⟩ (by omega) sr_ sn_
end
def szA (s : Int) : List Int → Int
 | [] => s
 | c :: cs => if c = -1 then 0 else IntKind.i64.wrap (c * szA s cs)
def szF (l : Lay) (ds : List Df) : Nat → Int → Int
 | 0, _ => 0
 | f + 1, n => if n < 0 then 0 else match ds[n.toNat]? with
  | none => 0
  | some d => if d.kind = 12 ∨ d.kind = 13 then szF l ds f d.of else if d.kind = 11 then szA (szF l ds f d.of) d.cnts else bySize l d
theorem szF_stable {l : Lay} {ds : List Df} (hok : OkDs l ds) : ∀ (f g : Nat) (n : Int), n < f → n < g → szF l ds f n = szF l ds g n
 | 0, 0, _, _, _ => rfl
 | 0, g + 1, n, h, _ => by
  show 0 = _
  unfold szF; rw [if_pos (by omega)]
 | f + 1, 0, n, _, h => by
  show _ = 0
  unfold szF; rw [if_pos (by omega)]
 | f + 1, g + 1, n, hf, hg => by
  unfold szF
  by_cases h0 : n < 0
  ·rw [if_pos h0, if_pos h0]
  rw [if_neg h0, if_neg h0]
  cases hd : ds[n.toNat]? with
  | none => rfl
  | some d =>
   simp only
   have hdo := (hok.each _ d hd).d1.ahead
   by_cases hk : d.kind = 12 ∨ d.kind = 13
   ·rw [if_pos hk, if_pos hk]
    have := hdo (by omega)
    exact szF_stable hok f g d.of (by omega) (by omega)
   rw [if_neg hk, if_neg hk]
   by_cases h11 : d.kind = 11
   ·rw [if_pos h11, if_pos h11]
    have := hdo (by omega)
    rw [szF_stable hok f g d.of (by omega) (by omega)]
   rw [if_neg h11, if_neg h11]
section
variable {Γ : Env} {l : Lay} {ds : List Df} {H : List Blk} {B : BM} {es : List MapEntry} {td : TDs}
theorem cell_of {b o : Nat} {c : List Value} {t : TypeId} {v : Value} (h : Γ.imm b = some (cel c t)) (hv : c[o]? = some v) : Γ.cell b o = some v := by
 unfold Env.cell
 rw [h]
 simpa using hv
theorem sizes (hS : TS Γ l ds [] B es td) (hok : OkDs l ds) (hT : ∀ x ∈ td, Rd Γ H x.1 (0 + 2) x.2.2) : ∀ (f : Nat) (n : Int) (v : Value), n < f → n ≠ -3 → KV Γ B ds n v → SzC Γ H v (szF l ds f n)
 | 0, n, v, hf, h3, hk => by
  unfold KV at hk
  rw [if_neg h3, if_pos (by omega)] at hk
  obtain ⟨b, rfl, hb⟩ := hk
  exact szc_void (.inl (cell_of hb rfl))
 | f + 1, n, v, hf, h3, hk => by
  unfold KV at hk
  rw [if_neg h3] at hk
  unfold szF
  by_cases h0 : n < 0
  ·rw [if_pos h0] at hk ⊢
   obtain ⟨b, rfl, hb⟩ := hk
   exact szc_void (.inl (cell_of hb rfl))
  rw [if_neg h0] at hk ⊢
  obtain ⟨d, b, hd, hb, rfl⟩ := hk
  rw [hd]
  simp only
  have hO := hok.each _ d hd
  have hk1 := hO.k1
  have hk16 := hO.k16
  have hah := hO.d1.ahead
  have hof0 := hO.d0.of0
  rcases hS.done _ d b hd hb (by simp) with hobj | ⟨h12, v, hm, hkv⟩
  ·unfold ObjC at hobj
   by_cases h9 : d.kind = 9
   ·rw [if_pos h9] at hobj
    rw [if_neg (by omega), if_neg (by omega)]
    obtain ⟨v, hi, -⟩ := hobj
    refine szc_basic hk1 (.inl (by omega)) hk16 (.inl (cell_of hi ?_))
    unfold bySize; rw [if_pos h9]; rfl
   rw [if_neg h9] at hobj
   by_cases h10 : d.kind = 10
   ·rw [if_pos h10] at hobj
    rw [if_neg (by omega), if_neg (by omega)]
    obtain ⟨v, hi, -⟩ := hobj
    refine szc_basic hk1 (.inl (by omega)) hk16 (.inl (cell_of hi ?_))
    unfold bySize; rw [if_neg h9, if_pos h10]; rfl
   rw [if_neg h10] at hobj
   by_cases h11 : d.kind = 11
   ·rw [if_pos h11] at hobj
    rw [if_neg (by omega), if_pos h11]
    have ih : ∀ v, KV Γ B ds d.of v → SzC Γ H v (szF l ds f d.of) := fun v hv => sizes hS hok hT f d.of v (by have := hah (by omega); omega) (by omega) hv
    have key : ∀ (k q b : Nat), q + k + 1 = d.cnts.length → ObjA Γ B ds n.toNat d q b → SzC Γ H (pkey 184 b) (szA (szF l ds f d.of) (d.cnts.drop q)) := by
     intro k
     induction k with
     | zero =>
      intro q b hq hA
      obtain ⟨z, c, v, hc, hi, hD⟩ := hA
      unfold DirC at hD
      rw [if_neg (by omega)] at hD
      have hlt : q < d.cnts.length := by omega
      rw [List.drop_eq_getElem_cons hlt, List.drop_eq_nil_of_le (by omega)]
      have ec : d.cnts[q] = c := by rw [List.getElem?_eq_getElem hlt] at hc; injection hc
      rw [ec]
      exact szc_array (.inl (cell_of hi rfl)) (.inl (cell_of hi rfl)) (ih v hD)
     | succ k ihk =>
      intro q b hq hA
      obtain ⟨z, c, v, hc, hi, hD⟩ := hA
      unfold DirC at hD
      rw [if_pos (by omega)] at hD
      obtain ⟨b', hb', rfl⟩ := hD
      obtain ⟨d', hd', -, hA'⟩ := hS.dir _ _ _ hb'
      rw [hd] at hd'; injection hd' with hd'; subst hd'
      have hlt : q < d.cnts.length := by omega
      rw [List.drop_eq_getElem_cons hlt]
      have ec : d.cnts[q] = c := by rw [List.getElem?_eq_getElem hlt] at hc; injection hc
      rw [ec]
      exact szc_array (.inl (cell_of hi rfl)) (.inl (cell_of hi rfl)) (ihk (q + 1) b' (by omega) hA')
    have htp : tyP d.kind = 184 := by rw [h11]; rfl
    rw [htp]
    have hln := hO.arrn h11
    have := key (d.cnts.length - 1) 0 b (by omega) hobj
    rw [List.drop_zero] at this
    exact this
   rw [if_neg h11] at hobj
   by_cases h12 : d.kind = 12
   ·rw [if_pos h12] at hobj
    obtain ⟨z, v, hi, hv⟩ := hobj
    rw [if_pos (.inl h12), show tyP d.kind = 248 by rw [h12]; rfl]
    exact szc_typedef (.inl (cell_of hi rfl)) (sizes hS hok hT f d.of v (by have := hah (by omega); omega) (by omega) hv)
   rw [if_neg h12] at hobj
   by_cases h13 : d.kind = 13
   ·rw [if_pos h13] at hobj
    obtain ⟨z, v, hi, hv⟩ := hobj
    rw [if_pos (.inr h13), show tyP d.kind = 230 by rw [h13]; rfl]
    exact szc_qual (.inl (cell_of hi rfl)) (sizes hS hok hT f d.of v (by have := hah (by omega); omega) (by omega) hv)
   rw [if_neg h13] at hobj
   rw [if_neg (by omega), if_neg (by omega)]
   by_cases h14 : d.kind = 14
   ·rw [if_pos h14] at hobj
    obtain ⟨vs, hi, -⟩ := hobj
    refine szc_basic hk1 (.inr (by omega)) hk16 (.inl (cell_of hi ?_))
    unfold bySize; rw [if_neg h9, if_neg h10, if_pos (.inl h14)]; rfl
   rw [if_neg h14] at hobj
   by_cases h15 : d.kind = 15
   ·rw [if_pos h15] at hobj
    obtain ⟨v, vs, hi, -⟩ := hobj
    refine szc_basic hk1 (.inr (by omega)) hk16 (.inl (cell_of hi ?_))
    unfold bySize; rw [if_neg h9, if_neg h10, if_neg (by omega)]; rfl
   rw [if_neg h15] at hobj
   by_cases h16 : d.kind = 16
   ·rw [if_pos h16] at hobj
    refine szc_basic hk1 (.inr (by omega)) hk16 (.inl (cell_of hobj ?_))
    unfold bySize; rw [if_neg h9, if_neg h10, if_neg (by omega)]; rfl
   ·rw [if_neg h16] at hobj
    refine szc_basic hk1 (.inl (by omega)) hk16 (.inl (cell_of hobj ?_))
    unfold bySize; rw [if_neg h9, if_neg h10, if_pos (by omega)]; rfl
  ·rw [if_pos (.inl h12), show tyP d.kind = 248 by rw [h12]; rfl]
   exact szc_typedef (hT _ hm) (sizes hS hok hT f d.of v (by have := hah (by omega); omega) (by omega) hkv)
abbrev TZs := List ((Nat × ByteArray × Value) × Int)
def tdZ (dz : TZs) : List Blk := dz.map fun x => (x.1.1, cel [.int .i64 x.2, .string x.1.2.1, x.1.2.2] 249)
theorem tdZ_snoc (dz : TZs) (x : (Nat × ByteArray × Value) × Int) : tdZ (dz ++ [x]) = tdZ dz ++ [(x.1.1, cel [.int .i64 x.2, .string x.1.2.1, x.1.2.2] 249)] := by unfold tdZ; rw [List.map_append]; rfl
theorem pick_mem {b : Nat} {o : Obj} : ∀ {H : List Blk}, (b, o) ∈ H → ∃ F, Pick H b o F
 | [], h => by cases h
 | x :: H, h => by
  rcases List.mem_cons.1 h with rfl | h
  ·exact ⟨_, .here⟩
  ·obtain ⟨F, hF⟩ := pick_mem h
   exact ⟨_, .there hF⟩
theorem rd_td {dz : TZs} {tb : TDs} {x : Nat × ByteArray × Value} (hx : x ∈ dz.map Prod.fst ++ tb) (hZ : ∀ y ∈ tdZ dz ++ tdB tb, y ∈ H) : Rd Γ H x.1 (0 + 2) x.2.2 := by
 rcases List.mem_append.1 hx with h | h
 ·obtain ⟨p, hp, rfl⟩ := List.mem_map.1 h
  obtain ⟨F, hF⟩ := pick_mem (hZ _ (List.mem_append_left _ (List.mem_map.2 ⟨p, hp, rfl⟩)))
  exact .inr ⟨_, _, _, _, hF, rfl⟩
 ·obtain ⟨F, hF⟩ := pick_mem (hZ _ (List.mem_append_right _ (List.mem_map.2 ⟨x, h, rfl⟩)))
  exact .inr ⟨_, _, _, _, hF, rfl⟩
def PtC (x : Nat × ByteArray × Value) (c : List Value) : Prop := c = [.pointer (some ⟨x.1, 0, none⟩)]
theorem ptC_lis : ∀ td : TDs, LisC PtC td (tdP td)
 | [] => rfl
 | _ :: td => ⟨[_], _, rfl, rfl, ptC_lis td⟩
theorem apply_walk {pf : Nat} {sl : Value} {Hv F : List Blk} (hS : TS Γ l ds [] B es td) (hok : OkDs l ds) (how : Ow 1 sl td.length (tdP td) Hv) (hn : td.length ≤ 1000000) :
  Spc Tryz.prog 62 #[.pointer (some ⟨pf, 0, none⟩)] Γ ((pf, cel [sl, nilS] 172) :: (tdB td ++ (Hv ++ F))) (fun r Γ' H' => r = .tuple #[] ∧ ∃ dz : TZs, dz.map Prod.fst = td ∧ H' = tdZ dz ++ F) := by
 obtain ⟨a9, c9, rfl⟩ := Ow.shape how
 refine Spc.body1 Tryz.func62 rfl Tryz.ntmps62 rfl ?_
 refine hz_ ?_
 refine WC.keep how tk_ (fun Γ1 hle1 him => ?_)
 refine WC.loopE (fun m R' Γ' H' => ∃ i dz tb, R' = [(0, .pointer (some ⟨pf, 0, none⟩)), (9, .slice a9 td.length c9), (10, .int .i64 (td.length : Int)), (11, .int .i64 ((i : Nat) : Int))] ∧ m = tb.length ∧ i + tb.length = td.length ∧ Γ1 = Γ' ∧ dz.map Prod.fst ++ tb = td ∧ i = dz.length ∧
   H' = (pf, cel [.slice a9 td.length c9, nilS] 172) :: (tdZ dz ++ (tdB tb ++ F))) ⟨0, [], td, rfl, rfl, by omega, rfl, rfl, rfl, rfl⟩ sr_ sn_ ?_
 rintro m R' Γ2 H' ⟨i, dz, tb, rfl, rfl, hil, rfl, htd, rfl, rfl⟩
 have hA : Arr Γ1 PtC (.slice a9 td.length c9) td := Im.arr him (ptC_lis td)
 obtain ⟨aA, capA, cellsA, eA, hcapA, hIA, hLA⟩ := hA
 injection eA with e1 e2 e3
 subst e1 e3
 cases tb with
 | nil =>
  rw [List.length_nil, Nat.add_zero] at hil
  rw [hil]
  rw [List.append_nil] at htd
  refine hz_ ?_
  refine WC.condF rfl (decide_eq_false (by omega)) ?_
  refine hz_ ?_
  refine WC.loop2 ?_
  refine hz_ ?_
  refine WE.re (H2 := tdZ dz ++ F) (by show ∀ w, St Γ1 (_ :: (tdZ dz ++ ([] ++ F))) w → _; exact sn_) ?_
  exact end_0 rfl hle1 ⟨rfl, dz, htd, rfl⟩
 | cons x tb =>
  rw [List.length_cons] at hil
  have hxi : td[dz.length]? = some x := by rw [← htd, List.getElem?_append_right (by rw [List.length_map]; exact Nat.le_refl _), List.length_map, Nat.sub_self]; rfl
  obtain ⟨bb, oo, cc, rfl, hP, hc⟩ := elemA hIA hLA (fun _ _ h => by rw [h]; rfl) (w := 1) (by decide) hxi
  cases hP
  have hc0 := hc.1
  obtain ⟨jx, dx, hdx, hbx, h12, hnm, hkv⟩ := hS.tds x (List.mem_of_getElem? hxi)
  have hox := hok.each _ dx hdx
  have hof := hox.d0.of1
  have hof0 := hox.d0.of0
  have hT : ∀ y ∈ td, Rd Γ1 ((pf, cel [.slice (some ⟨bb, oo, none⟩) td.length c9, nilS] 172) :: (tdZ dz ++ ((x.1, cel [.int .i64 (-1), .string x.2.1, x.2.2] 249) :: (tdB tb ++ F)))) y.1 (0 + 2) y.2.2 := fun y hy => rd_td (dz := dz) (tb := x :: tb) (by rw [htd]; exact hy) (fun z hz => by
   rcases List.mem_append.1 hz with hz | hz
   ·simp [hz]
   ·rcases List.mem_cons.1 hz with rfl | hz
    ·simp
    ·have : z ∈ tdB tb := hz
     simp [this])
  obtain ⟨t, u, f, rv, ev, hm, hcf, hs⟩ := sizes (hS.mono hle1) hok hT (ds.length + 1) dx.of x.2.2 (by omega) (by omega) (hkv.mono hle1 (BM.le.rfl' _))
  refine WC.sub (R' := [(0, .pointer (some ⟨pf, 0, none⟩)), (9, .slice (some ⟨bb, oo, none⟩) td.length c9), (10, .int .i64 (td.length : Int)), (11, .int .i64 ((dz.length : Nat) : Int))]) (H' := (pf, cel [.slice (some ⟨bb, oo, none⟩) td.length c9, nilS] 172) :: (tdZ dz ++ ((x.1, cel [.int .i64 (-1), .string x.2.1, x.2.2] 249) :: (tdB tb ++ F)))) sr_ (fun _ h => h) ?_
  refine hz_ ?_
  refine WC.condT rfl tr_ ?_
  refine hz_ ?_
  refine WC.draw 11 (.take 0 (.take 1 (.take 2 (.take 4 (.take 5 (.take 6 (.take 7 (.one 3 (.one 8 (.one 9 (.take 10 (.one 11 .done)))))))))))) ((x.1, cel [.int .i64 (-1), .string x.2.1, x.2.2] 249) :: []) mixed hsb_ (by decide +kernel) ?_
  refine jz_ ?_
  refine WL.call rfl Tryz.call91 rfl rfl (by exact common_ok) ?_
  rintro _ _ _ - ⟨rfl, rfl, rfl⟩
  refine jz_ ?_
  refine WL.invoke (congrArg some ev) hm hcf rfl rfl hs ?_
  rintro _ _ _ - ⟨rfl, rfl, rfl⟩
  refine jz_ ?_
  refine hz_ ?_
  have hwi : IntKind.i64.wrap (((dz.length : Nat) : Int) + 1) = ((dz.length + 1 : Nat) : Int) := by rw [w_i64 (by omega) (by omega)]; omega
  rw [hwi]
  exact WE.again ⟨dz.length + 1, dz ++ [(x, szF l ds (ds.length + 1) dx.of)], tb, rfl, rfl, by omega, rfl, by rw [List.map_append, List.append_assoc]; exact htd, by rw [List.length_append]; rfl, by rw [tdZ_snoc, List.append_assoc]⟩ (by simp only [List.length_cons]; omega) sr_ sn_
end
end Go.Proofs.YtbgkbgoonjkghaaGreatDoor
namespace Go.Sl
open Go
section
variable {P : Program} {Q : Post} {n : Nat} {D : List Deferred} {R : Regs} {Γ : Env} {H : List Blk}
theorem WE.sub {e : Exit} {R' : Regs} {H' : List Blk} (hR : subR R R') (hH : ∀ w, St Γ H w → St Γ H' w) (k : WE Q e n D R' Γ H') : WE Q e n D R Γ H :=
 ⟨fun a w hs => k.go a w ⟨hs.defers, hs.size, fun i v e => hs.regs i v (subR_get hR i v e), hH w hs.st⟩⟩
end
end Go.Sl
namespace Go.Proofs.YtbgkbgoonjkghaaGreatDoor
open Go Go.Sl
set_option maxRecDepth 10000
set_option maxHeartbeats 40000000
theorem kz_ {p q : Prop} (k : q) (h : Wrp q → p := by intro k; (repeat (first | (refine WC.g ?_; first | refine WC.scope ?_ | refine WC.seqRun tab_ok rfl ?_ | refine WC.condF rfl rfl ?_ | refine WC.condT rfl rfl ?_ | refine WC.seq ?_ | refine WC.regRun tab_ok rfl ?_ | refine WC.region ?_ | refine WC.ret ?_ | refine WC.exit ?_ | refine WC.skip ?_) | (refine WL.g ?_; first | refine WL.nil ?_ | refine WL.run tab_ok rfl rfl ?_ | (refine WL.gLoad ?_; first | refine WL.ld tab_ok rfl rfl rfl pk_ rfl rfl ?_ | refine WL.ldA tab_ok rfl rfl rfl pk_ cut_ rfl ?_ | refine WL.ldI tab_ok rfl rfl rfl (by assumption) rfl ?_ | refine WL.ldR tab_ok rfl rfl rfl hrd_ rfl ?_ | refine WL.ldAI tab_ok rfl rfl rfl (by assumption) rfl rfl ?_) | (refine WL.gStore ?_; refine WL.st tab_ok rfl rfl rfl pk_ spl_ rfl rfl ?_) | (refine WL.gIdx ?_; refine WL.idx tab_ok rfl rfl rfl rfl (by omega) (by omega) rfl ?_) | (refine WL.gBuild ?_; refine WL.build tab_ok rfl spi_ rfl ?_) | (refine WL.gSlice ?_; first | refine WL.slLo tab_ok rfl rfl rfl rfl (by omega) (by omega) (by omega) rfl ?_ | refine WL.slHi tab_ok rfl rfl rfl rfl (by omega) (by omega) rfl ?_ | refine WL.slLH tab_ok rfl rfl rfl rfl rfl (by omega) (by omega) (by omega) rfl ?_) | (refine WL.gBin ?_; first | refine WL.pure tab_ok (evalP_shl rfl rfl (by omega)) rfl ?_ | refine WL.pure tab_ok (evalP_shr rfl rfl (by omega)) rfl ?_) | refine WL.pure tab_ok rfl rfl ?_ | (refine WL.gGuard ?_; first | refine WL.yes rfl rfl rfl ?_ | refine WL.no rfl rfl rfl rfl rfl ?_ | refine WL.noU rfl rfl rfl rfl ?_)) | (refine WE.g ?_; first | refine WE.then_ ?_ | refine WE.thenX rfl ?_ | refine WE.block_n ?_ | refine WE.block_x ?_ | refine WE.block_y rfl ?_ | refine WE.block_r ?_ | apply WE.drawnL | (apply WE.drawn; exact (by first | exact Env.le.rfl' _ | assumption); exact hsb_) | refine WE.ng_n ?_ | refine WE.ng_r ?_ | refine WE.ng_x ?_ | refine WE.np_n ?_ | refine WE.np_r ?_ | refine WE.np_x ?_))); exact k.out) : p := h ⟨k⟩
section
variable {Γ : Env} {pd pu : Nat} {l : Lay} {ds : List Df} {pm pf pr n : Nat} {nm : Value} {pe b6 b7 b8 b10 b11 b16 b17 b21 c : Nat} {O : List Nat} {B : BM} {es : List MapEntry} {td : TDs} {sl : Value} {Hv F : List Blk} {ou o : Obj} {j : Nat} {d : Df}
theorem sw_all (h : SWH Γ pd pu pm pf pr l ds n nm pe b6 b7 b8 b10 b11 b16 b21 O B es td sl Hv F ou o j d) : SwG l ds d pu pm pf pr pe b6 b7 b8 b10 b11 b16 b17 b21 c O B es td sl Hv F ou o Γ j := by
 intro Q D
 have hok := h.ok
 have h1 := hok.k1
 have h16 := hok.k16
 have hw0 := hok.d2.w0
 have hw2 := hok.d2.w2
 by_cases e1 : d.kind = 1
 ·exact sw1 h e1
 by_cases e2 : d.kind = 2
 ·exact sw2 h e2
 by_cases e3 : d.kind = 3
 ·exact sw3 h e3
 by_cases e4 : d.kind = 4
 ·exact sw4 h e4
 by_cases e5 : d.kind = 5
 ·exact sw5 h e5
 by_cases e6 : d.kind = 6
 ·exact sw6 h e6
 by_cases e7 : d.kind = 7
 ·exact sw7 h e7
 by_cases e8 : d.kind = 8
 ·exact sw8 h e8
 by_cases e9 : d.kind = 9
 ·exact sw9 h e9
 by_cases e10 : d.kind = 10
 ·by_cases w0 : d.which = 0
  ·exact sw10a h e10 w0
  by_cases w1 : d.which = 1
  ·exact sw10b h e10 w1
  ·exact sw10c h e10 (by omega)
 by_cases e11 : d.kind = 11
 ·exact sw11 h e11
 by_cases e12 : d.kind = 12
 ·exact sw12 h e12
 by_cases e13 : d.kind = 13
 ·exact sw13 h e13
 by_cases e14 : d.kind = 14
 ·exact sw14 h e14
 by_cases e15 : d.kind = 15
 ·exact sw15 h e15
 ·exact sw16 h (by omega)
theorem metC {k : Int} (h1 : 1 ≤ k) (h16 : k ≤ 16) (b : Nat) (w : World) : (method (Tryz.prog.types.size + Made.depth) (tyP k) (.pointer (some ⟨b, 0, none⟩)) "Common").run Tryz.prog w = .ok (91, .pointer (some ⟨b, 0, none⟩)) w := by
 have hk : k = 1 ∨ k = 2 ∨ k = 3 ∨ k = 4 ∨ k = 5 ∨ k = 6 ∨ k = 7 ∨ k = 8 ∨ k = 9 ∨ k = 10 ∨ k = 11 ∨ k = 12 ∨ k = 13 ∨ k = 14 ∨ k = 15 ∨ k = 16 := by omega
 rcases hk with rfl | rfl | rfl | rfl | rfl | rfl | rfl | rfl | rfl | rfl | rfl | rfl | rfl | rfl | rfl | rfl
 ·exact meth2 tab_ok (t := 190) (s := 194) (s2 := 192) (by kernel_rfl) (by rfl) (by rfl) (by rfl) (by rfl) (by rfl) (by rfl) (by rfl) (by rfl) (by rfl) (by rfl) (by rfl) (by rfl) _ _ w
 ·exact meth2 tab_ok (t := 195) (s := 196) (s2 := 192) (by kernel_rfl) (by rfl) (by rfl) (by rfl) (by rfl) (by rfl) (by rfl) (by rfl) (by rfl) (by rfl) (by rfl) (by rfl) (by rfl) _ _ w
 ·exact meth2 tab_ok (t := 197) (s := 198) (s2 := 192) (by kernel_rfl) (by rfl) (by rfl) (by rfl) (by rfl) (by rfl) (by rfl) (by rfl) (by rfl) (by rfl) (by rfl) (by rfl) (by rfl) _ _ w
 ·exact meth2 tab_ok (t := 199) (s := 200) (s2 := 192) (by kernel_rfl) (by rfl) (by rfl) (by rfl) (by rfl) (by rfl) (by rfl) (by rfl) (by rfl) (by rfl) (by rfl) (by rfl) (by rfl) _ _ w
 ·exact meth2 tab_ok (t := 201) (s := 202) (s2 := 192) (by kernel_rfl) (by rfl) (by rfl) (by rfl) (by rfl) (by rfl) (by rfl) (by rfl) (by rfl) (by rfl) (by rfl) (by rfl) (by rfl) _ _ w
 ·exact meth2 tab_ok (t := 205) (s := 206) (s2 := 192) (by kernel_rfl) (by rfl) (by rfl) (by rfl) (by rfl) (by rfl) (by rfl) (by rfl) (by rfl) (by rfl) (by rfl) (by rfl) (by rfl) _ _ w
 ·exact meth2 tab_ok (t := 203) (s := 204) (s2 := 192) (by kernel_rfl) (by rfl) (by rfl) (by rfl) (by rfl) (by rfl) (by rfl) (by rfl) (by rfl) (by rfl) (by rfl) (by rfl) (by rfl) _ _ w
 ·exact meth2 tab_ok (t := 207) (s := 208) (s2 := 192) (by kernel_rfl) (by rfl) (by rfl) (by rfl) (by rfl) (by rfl) (by rfl) (by rfl) (by rfl) (by rfl) (by rfl) (by rfl) (by rfl) _ _ w
 ·exact meth1 tab_ok (t := 240) (s := 242) (by kernel_rfl) (by rfl) (by rfl) (by rfl) (by rfl) (by rfl) (by rfl) _ _ w
 ·exact meth1 tab_ok (t := 212) (s := 215) (by kernel_rfl) (by rfl) (by rfl) (by rfl) (by rfl) (by rfl) (by rfl) _ _ w
 ·exact meth1 tab_ok (t := 184) (s := 186) (by kernel_rfl) (by rfl) (by rfl) (by rfl) (by rfl) (by rfl) (by rfl) _ _ w
 ·exact meth1 tab_ok (t := 248) (s := 249) (by kernel_rfl) (by rfl) (by rfl) (by rfl) (by rfl) (by rfl) (by rfl) _ _ w
 ·exact meth1 tab_ok (t := 230) (s := 232) (by kernel_rfl) (by rfl) (by rfl) (by rfl) (by rfl) (by rfl) (by rfl) _ _ w
 ·exact meth1 tab_ok (t := 233) (s := 236) (by kernel_rfl) (by rfl) (by rfl) (by rfl) (by rfl) (by rfl) (by rfl) _ _ w
 ·exact meth1 tab_ok (t := 243) (s := 246) (by kernel_rfl) (by rfl) (by rfl) (by rfl) (by rfl) (by rfl) (by rfl) _ _ w
 ·exact meth2 tab_ok (t := 250) (s := 251) (s2 := 192) (by kernel_rfl) (by rfl) (by rfl) (by rfl) (by rfl) (by rfl) (by rfl) (by rfl) (by rfl) (by rfl) (by rfl) (by rfl) (by rfl) _ _ w
def szK (d : Df) : Option Int := if d.kind = 10 then (if d.inc then none else some d.size) else if d.kind = 14 ∨ d.kind ≤ 8 then some d.size else none
theorem hd_11 (hok : OkDs l ds) (hd : OkDf ds.length j d) : eV l.vers (hdN l ds d) 11 = (szK d).map FV.i := by
 have h1 := hd.k1
 have h16 := hd.k16
 unfold szK
 by_cases e10 : d.kind = 10
 ·rw [if_pos e10, (hd10 (v := l.vers) (l := l) (ds := ds) hd.d0.s0 hd.d0.s1 e10).2.2.2]; split <;> rfl
 rw [if_neg e10]
 by_cases e14 : d.kind = 14
 ·rw [if_pos (.inl e14), (hd14 (v := l.vers) (l := l) (ds := ds) hd.d0.s0 hd.d0.s1 e14).2.2]; rfl
 by_cases e8 : d.kind ≤ 8
 ·rw [if_pos (.inr e8), (hdBa (v := l.vers) (l := l) (ds := ds) hd.d0.s0 hd.d0.s1 h1 e8).2.2.2.1]; rfl
 rw [if_neg (by omega)]
 have hk : d.kind = 9 ∨ d.kind = 11 ∨ d.kind = 12 ∨ d.kind = 13 ∨ d.kind = 15 ∨ d.kind = 16 := by omega
 rcases hk with e | e | e | e | e | e
 ·rw [(hd9 (v := l.vers) hok hd.d0.of1 e).2.2]; rfl
 ·rw [(hd11 (v := l.vers) hok hd.d0.of1 e).2.2.1]; rfl
 ·rw [(hd12 (v := l.vers) hok hd.d0.of1 e).2.2.1]; rfl
 ·rw [(hd13 (v := l.vers) hok hd.d0.of1 e).2.2]; rfl
 ·rw [(hd15 (v := l.vers) hok hd.d0.of1 e).2.2]; rfl
 ·rw [(hd16 (v := l.vers) (l := l) (ds := ds) e).2.2]; rfl
theorem bySize_K {z : Int} (h : szK d = some z) (hk : 1 ≤ d.kind) : bySize l d = z := by
 unfold szK at h
 unfold bySize
 by_cases e10 : d.kind = 10
 ·rw [if_pos e10] at h
  rw [if_neg (by omega), if_pos e10]
  cases hi : d.inc with
  | true => rw [hi] at h; cases h
  | false => rw [hi] at h; injection h
 rw [if_neg e10] at h
 by_cases e14 : d.kind = 14 ∨ d.kind ≤ 8
 ·rw [if_pos e14] at h
  rw [if_neg (by omega), if_neg e10, if_pos e14]
  injection h
 ·rw [if_neg e14] at h; cases h
end
theorem tdB_snoc (td : TDs) (x : Nat × ByteArray × Value) : tdB (td ++ [x]) = tdB td ++ [(x.1, cel [.int .i64 (-1), .string x.2.1, x.2.2] 249)] := by unfold tdB; rw [List.map_append]; rfl
theorem tdP_snoc (td : TDs) (x : Nat × ByteArray × Value) : tdP (td ++ [x]) = tdP td ++ [.pointer (some ⟨x.1, 0, none⟩)] := by unfold tdP; rw [List.map_append]; rfl
section
variable {Γ : Env} {pd pu : Nat} {l : Lay} {ds : List Df} {pm pf pr n : Nat} {nm : Value} {pe b6 b7 b8 b10 b11 b16 b17 b21 c : Nat} {O : List Nat} {B : BM} {es : List MapEntry} {td : TDs} {sl : Value} {Hv F : List Blk} {ou o : Obj} {j : Nat} {d : Df}
theorem rest_ok {Q : Post} {D : List Deferred} (hNP : NP Q) (ih : RTc pd pu l ds nm pm pf n) (tx : TX Γ pd pu l ds) (ux : UX Γ l ds ou) (ts : TS Γ l ds O B es td) (op : OpL Γ F O B) (ow : Ow 1 sl td.length (tdP td) Hv)
  (c6 : Γ.cell b6 0 = some (.pointer (some ⟨pd, 0, none⟩))) (c7 : Γ.cell b7 0 = some nm) (c8 : Γ.cell b8 0 = some (.iface 124 (.pointer (some ⟨pr, 0, none⟩)))) (c10 : Γ.cell b10 0 = some (.map (some pm))) (c11 : Γ.cell b11 0 = some (.pointer (some ⟨pf, 0, none⟩))) (c16 : Γ.cell b16 0 = some (.pointer (some ⟨pe, 0, none⟩)))
  (dj : ds[j]? = some d) (b0 : B j 0 = none) (ms : missL B ds.length ≤ n + 1) (ent : NE Γ pe (nodO l ds (rtI ds j)) l.vers (hdN l ds d)) (rd : RN Γ pd pu l ds (rtI ds j + 1) o)
  (K : ∀ {Γ' : Env} {ou : Obj} {es : List MapEntry} {c : Nat} {sl : Value} {td : TDs} {Hv : List Blk} {B' : BM} {b : Nat}, Γ.le Γ' → B' j 0 = some b → BM.ext O B B' → UX Γ' l ds ou → TS Γ' l ds O B' es td → Ow 1 sl td.length (tdP td) Hv →
   WE Q .ret 880 D [(12, pkey (tyP d.kind) b), (13, .nilIface)] Γ' (RSH pu ou pm es c pf sl td Hv F)) :
  WC Tryz.prog (csub (Tryz.f42.body.getD .skip) [true, true, true, true, true, true, true, true, true]) Q 880 D [(3, .int .u32 ((nodO l ds (rtI ds j) : Nat) : Int)), (6, .pointer (some ⟨b6, 0, none⟩)), (7, .pointer (some ⟨b7, 0, none⟩)), (8, .pointer (some ⟨b8, 0, none⟩)), (10, .pointer (some ⟨b10, 0, none⟩)), (11, .pointer (some ⟨b11, 0, none⟩)), (16, .pointer (some ⟨b16, 0, none⟩)), (17, .pointer (some ⟨b17, 0, none⟩)), (18, .int .i64 l.size)] Γ ((b17, cel [.nilIface] 77) :: (pr, o) :: RSH pu ou pm es c pf sl td Hv F) := by
 have te := ent.tag
 have hok := tx.ok.each j d dj
 have hk1 := hok.k1
 have hk16 := hok.k16
 refine kz_ ?_
 (refine WL.alloc tab_ok rfl rfl ?_; intro b21)
 refine kz_ ?_
 refine WC.freeze (b := b21) pk_ (fun hle => ?_)
 refine WC.cutM (SwM pu pm pf pr b11 b16 b17 l ds O B F (Γ.add b21 (cel [.int .i64 0] 3)) j d (tyP d.kind) (tyO d.kind)) ?_ ?_
 ·refine WC.sub (R' := SwR l ds j d pe b6 b7 b8 b10 b11 b16 b17 b21) (H' := (b17, cel [.nilIface] 77) :: (pr, o) :: RSH pu ou pm es c pf sl td Hv F) sr_ sn_ ?_
  exact sw_all ⟨ih, tx.mono hle, ux.mono hle, ts.mono hle, op.mono hle (BM.le.rfl' _), ow, ⟨hle.cell c6, hle.cell c7, hle.cell c8, hle.cell c10, hle.cell c11, hle.cell c16, by simp [Env.cell, Env.add]⟩, dj, b0, ms, ent.mono hle, rd.mono hle⟩ np_
 rintro R' Γ1 H' ⟨o1, ou1, es1, c1, sl1, td1, Hv1, B1, b, cs, rfl, hle1, rfl, hu1, hS1, how1, hext1, hb1, hfin1⟩
 have hle01 := hle.trans hle1
 have g16 := hle01.cell c16
 have g11 := hle01.cell c11
 have hfinish : ∀ {R : Regs} {z : Int}, bySize l d = z → WE Q .ret 880 D ((13, .nilIface) :: (12, pkey (tyP d.kind) b) :: R) Γ1 ((b, cel (.int .i64 z :: cs) (tyO d.kind)) :: (b17, cel [.nilIface] 77) :: (pr, o1) :: RSH pu ou1 pm es1 c1 pf sl1 td1 Hv1 F) := fun {R z} hz => by
  subst hz
  refine WE.freeze (b := b) pk_ (fun hleb => ?_)
  have hobj := (hfin1.mono hleb (BM.le.rfl' _)).obj (l := l) (b := b) (by simp [Env.add]) hk1 hk16
  refine WE.sub (R' := [(12, pkey (tyP d.kind) b), (13, .nilIface)]) (H' := RSH pu ou1 pm es1 c1 pf sl1 td1 Hv1 F) sr_ sn_ ?_
  exact K (hle01.trans hleb) hb1 hext1 (hu1.mono hleb) ((hS1.mono hleb).close dj hb1 hobj) how1
 refine hz_ ?_
 refine WL.call rfl Tryz.call65 rfl rfl (by exact ((ent.mono hle01).val 11)) ?_
 rw [hd_11 tx.ok hok]
 rintro v _ _ - ⟨rfl, rfl, hv⟩
 cases hz : szK d with
 | some z =>
  rw [hz] at hv
  obtain rfl : v = .iface 2 (.int .i64 z) := hv
  refine hz_ ?_
  refine WL.invoke rfl (metC hk1 hk16 b) Tryz.call91 rfl rfl common_ok ?_
  rintro _ _ _ - ⟨rfl, rfl, rfl⟩
  refine hz_ ?_
  exact hfinish (bySize_K hz hk1)
 | none =>
  rw [hz] at hv
  obtain rfl : v = .nilIface := hv
  by_cases e9 : d.kind = 9
  ·have htp : tyP d.kind = 240 := by rw [e9]; rfl
   rw [htp]
   refine hz_ ?_
   refine WL.invoke rfl (fun w => htp ▸ metC hk1 hk16 b w) Tryz.call91 rfl rfl common_ok ?_
   rintro _ _ _ - ⟨rfl, rfl, rfl⟩
   refine hz_ ?_
   rw [← htp]
   exact hfinish (by unfold bySize; rw [if_pos e9])
  by_cases e11 : d.kind = 11
  ·have htp : tyP d.kind = 184 := by rw [e11]; rfl
   rw [htp]
   refine hz_ ?_
   refine WL.invoke rfl (fun w => htp ▸ metC hk1 hk16 b w) Tryz.call91 rfl rfl common_ok ?_
   rintro _ _ _ - ⟨rfl, rfl, rfl⟩
   refine hz_ ?_
   rw [← htp]
   exact hfinish (by unfold bySize; rw [if_neg (by omega), if_neg (by omega), if_neg (by omega)])
  by_cases e13 : d.kind = 13
  ·have htp : tyP d.kind = 230 := by rw [e13]; rfl
   rw [htp]
   refine hz_ ?_
   refine WL.invoke rfl (fun w => htp ▸ metC hk1 hk16 b w) Tryz.call91 rfl rfl common_ok ?_
   rintro _ _ _ - ⟨rfl, rfl, rfl⟩
   refine hz_ ?_
   rw [← htp]
   exact hfinish (by unfold bySize; rw [if_neg (by omega), if_neg (by omega), if_neg (by omega)])
  by_cases e15 : d.kind = 15
  ·have htp : tyP d.kind = 243 := by rw [e15]; rfl
   rw [htp]
   refine hz_ ?_
   refine WL.invoke rfl (fun w => htp ▸ metC hk1 hk16 b w) Tryz.call91 rfl rfl common_ok ?_
   rintro _ _ _ - ⟨rfl, rfl, rfl⟩
   refine hz_ ?_
   rw [← htp]
   exact hfinish (by unfold bySize; rw [if_neg (by omega), if_neg (by omega), if_neg (by omega)])
  by_cases e16 : d.kind = 16
  ·have htp : tyP d.kind = 250 := by rw [e16]; rfl
   rw [htp]
   refine hz_ ?_
   refine WL.invoke rfl (fun w => htp ▸ metC hk1 hk16 b w) Tryz.call91 rfl rfl common_ok ?_
   rintro _ _ _ - ⟨rfl, rfl, rfl⟩
   refine hz_ ?_
   rw [← htp]
   exact hfinish (by unfold bySize; rw [if_neg (by omega), if_neg (by omega), if_neg (by omega)])
  by_cases e10 : d.kind = 10
  ·have htp : tyP d.kind = 212 := by rw [e10]; rfl
   rw [htp]
   refine hz_ ?_
   refine WL.invoke rfl (fun w => htp ▸ metC hk1 hk16 b w) Tryz.call91 rfl rfl common_ok ?_
   rintro _ _ _ - ⟨rfl, rfl, rfl⟩
   refine hz_ ?_
   rw [← htp]
   exact hfinish (by unfold bySize; rw [if_neg (by omega), if_pos e10]; unfold szK at hz; rw [if_pos e10] at hz; cases hi : d.inc with | true => rfl | false => rw [hi] at hz; cases hz)
  by_cases e12 : d.kind = 12
  ·have htp : tyP d.kind = 248 := by rw [e12]; rfl
   have hto : tyO d.kind = 249 := by rw [e12]; rfl
   unfold FinC at hfin1
   rw [if_neg (by omega), if_neg (by omega), if_neg (by omega), if_pos e12] at hfin1
   obtain ⟨v, rfl, hkv⟩ := hfin1
   rw [htp, hto]
   obtain ⟨a9, c9, rfl⟩ := Ow.shape how1
   have hfew := hS1.few
   have hn1 := tx.ok.n1
   refine hz_ ?_
   refine WC.draw 10 (.take 0 (.take 1 (.take 2 (.take 3 (.take 4 (.take 5 (.one 6 (.one 7 (.one 8 (.take 9 (.one 10 .done))))))))))) ((pf, cel [.slice a9 td1.length c9, nilS] 172) :: []) mixed hsb_ (by decide +kernel) ?_
   refine jz_ ?_
   (refine WL.lit tab_ok rfl rfl rfl rfl rfl rfl rfl spi_ rfl ?_; intro bq)
   refine jz_ ?_
   refine WL.append tab_ok rfl rfl rfl rfl rfl rfl rfl rfl how1 tk_ ((Ow.lit (s := 1) (b := bq) (k := 1) (l := [.pointer (some ⟨b, 0, none⟩)]) (T := 248) rfl).src tab_ok rfl t1_ (by simp [Value.oneCell'])) (by omega) (by omega) (fun v5 Hs5 how5 => ?_)
   obtain ⟨a5, c5, rfl⟩ := Ow.shape how5
   refine jz_ ?_
   refine hz_ ?_
   refine WL.invoke rfl (fun w => htp ▸ metC hk1 hk16 b w) Tryz.call91 rfl rfl common_ok ?_
   rintro _ _ _ - ⟨rfl, rfl, rfl⟩
   refine hz_ ?_
   rw [← htp]
   refine WE.sub (R' := [(12, pkey (tyP d.kind) b), (13, .nilIface)]) (H' := RSH pu ou1 pm es1 c1 pf (.slice a5 (td1.length + 1) c5) (td1 ++ [(b, d.name, v)]) Hs5 F) sr_ (by unfold RSH; rw [tdB_snoc, List.append_assoc, List.singleton_append]; exact sn_) ?_
   exact K hle01 hb1 hext1 hu1 (hS1.closeT dj hb1 e12 hkv) (by rw [List.length_append, List.length_singleton, tdP_snoc]; exact how5)
  exfalso
  unfold szK at hz
  rw [if_neg e10] at hz
  rw [if_pos (by omega)] at hz
  cases hz
end
section
variable {pd pu : Nat} {l : Lay} {ds : List Df} {nm : ByteArray} {pm pf : Nat}
theorem rt_step (n : Nat) (ih : ∀ m, m + 1 = n → RTc pd pu l ds (.string nm) pm pf m) : RTc pd pu l ds (.string nm) pm pf n := by
 intro Γ F O B es c td sl Hv pr j o ou d tx ux ts op ow hF hj hm
 have hmap := ts.map
 have hjl := (List.getElem?_eq_some_iff.1 hj).1
 have hmj := hmap.2 j d hj
 refine Spc.body6 Tryz.func42 rfl Tryz.ntmps42 rfl ?_
 refine WC.seq ?_
 refine WC.region ?_
 (refine WL.box rfl spi_ rfl ?_; intro b6)
 (refine WL.box rfl spi_ rfl ?_; intro b7)
 (refine WL.box rfl spi_ rfl ?_; intro b8)
 (refine WL.box rfl spi_ rfl ?_; intro b10)
 (refine WL.box rfl spi_ rfl ?_; intro b11)
 refine hz_ ?_
 cases e : mfind ((nodO l ds (rtI ds j) : Nat) : Int) es 0 with
 | some p =>
  obtain ⟨q, v⟩ := p
  rw [e] at hmj
  obtain ⟨b, hb, rfl⟩ := hmj
  refine WL.lookup tab_ok rfl rfl rfl rfl rfl (.inr ⟨_, pk_⟩) hmap.1 (v := .tuple #[pkey (tyP d.kind) b, .bool true]) (by rw [e]; rfl) rfl ?_
  refine hz_ ?_
  refine WE.re (H2 := RSH pu ou pm es c pf sl td Hv F) sn_ ?_
  exact end_2 rfl rfl rfl (Env.le.rfl' _) ⟨ou, es, c, sl, td, Hv, B, b, d, rfl, hj, hb, BM.ext.rfl' _ _, ux, ts, ow, rfl⟩
 | none =>
  rw [e] at hmj
  refine WL.lookup tab_ok rfl rfl rfl rfl rfl (.inr ⟨_, pk_⟩) hmap.1 (v := .tuple #[.nilIface, .bool false]) (by rw [e]; rfl) rfl ?_
  refine hz_ ?_
  refine WL.invoke rfl (fun w => run_method_ptr Tryz.underlying124 (by kernel_rfl) _ _ w) Tryz.call71 rfl rfl (by exact (seekN_ok tx ux pk_ pk_ hF hj)) ?_
  rintro _ Γ1 _ hle1 ⟨rfl, o1, ou1, hR1, hu1, rfl⟩
  refine hz_ ?_
  refine WL.invoke rfl (fun w => run_method_ptr Tryz.underlying124 (by kernel_rfl) _ _ w) Tryz.call156 rfl rfl (by exact (nextN_ok (tx.mono hle1) hu1 pk_ pk_ hR1 (hdN_at hj) (hd_tag d) rfl)) ?_
  rintro _ Γ2 _ hle2 ⟨pe, o2, rfl, hE2, hR2, rfl⟩
  have hle12 := hle1.trans hle2
  refine hz_ ?_
  (refine WL.alloc tab_ok rfl rfl ?_; intro b16)
  (refine WL.alloc tab_ok rfl rfl ?_; intro b17)
  refine hz_ ?_
  refine WL.invoke rfl (fun w => run_method_ptr Tryz.underlying124 (by kernel_rfl) _ _ w) Tryz.call155 rfl rfl (by exact (addressSize_ok (tx.mono hle12) (hu1.mono hle2) pk_ hR2 pk_)) ?_
  rintro _ _ _ - ⟨rfl, rfl, rfl⟩
  have hpl := hE2.place
  refine hz_ ?_
  rw [bne_self_eq_false]
  refine WC.condF rfl rfl ?_
  refine WC.skip ?_
  refine WE.then_ ?_
  refine WC.seq ?_
  refine WC.cutM (fun R' Γ' H' => R' = [(3, .int .u32 ((nodO l ds (rtI ds j) : Nat) : Int)), (6, .pointer (some ⟨b6, 0, none⟩)), (7, .pointer (some ⟨b7, 0, none⟩)), (8, .pointer (some ⟨b8, 0, none⟩)), (10, .pointer (some ⟨b10, 0, none⟩)), (11, .pointer (some ⟨b11, 0, none⟩)), (16, .pointer (some ⟨b16, 0, none⟩)), (17, .pointer (some ⟨b17, 0, none⟩)), (18, .int .i64 l.size)] ∧ Γ2.le Γ' ∧ Γ'.cell b6 0 = some (.pointer (some ⟨pd, 0, none⟩)) ∧ Γ'.cell b7 0 = some (.string nm) ∧ Γ'.cell b8 0 = some (.iface 124 (.pointer (some ⟨pr, 0, none⟩))) ∧ Γ'.cell b10 0 = some (.map (some pm)) ∧ Γ'.cell b11 0 = some (.pointer (some ⟨pf, 0, none⟩)) ∧ Γ'.cell b16 0 = some (.pointer (some ⟨pe, 0, none⟩)) ∧
   H' = (b17, cel [.nilIface] 77) :: (pr, o2) :: RSH pu ou1 pm es c pf sl td Hv F) ?_ ?_
  ·refine hz_ ?_
   refine WE.freeze (b := b6) pk_ (fun k6 => ?_)
   refine WE.freeze (b := b7) pk_ (fun k7 => ?_)
   refine WE.freeze (b := b8) pk_ (fun k8 => ?_)
   refine WE.freeze (b := b10) pk_ (fun k10 => ?_)
   refine WE.freeze (b := b11) pk_ (fun k11 => ?_)
   refine WE.freeze (b := b16) pk_ (fun k16 => ?_)
   exact WE.mid ⟨rfl, k6.trans (k7.trans (k8.trans (k10.trans (k11.trans k16)))), (k7.trans (k8.trans (k10.trans (k11.trans k16)))).cell (by simp [Env.cell, Env.add]), (k8.trans (k10.trans (k11.trans k16))).cell (by simp [Env.cell, Env.add]), (k10.trans (k11.trans k16)).cell (by simp [Env.cell, Env.add]), (k11.trans k16).cell (by simp [Env.cell, Env.add]), k16.cell (by simp [Env.cell, Env.add]), by simp [Env.cell, Env.add], rfl⟩ sr_ sn_
  rintro _ Γ3 _ ⟨rfl, hle3, c6, c7, c8, c10, c11, c16, rfl⟩
  refine WE.then_ ?_
  have hle13 := hle12.trans hle3
  obtain ⟨m, rfl⟩ : ∃ m, n = m + 1 := ⟨n - 1, by have := missL_put (b := 0) hmj hjl; omega⟩
  refine rest_ok (n := m) np_ (ih m rfl) (tx.mono hle13) (hu1.mono (hle2.trans hle3)) (ts.mono hle13) (op.mono hle13 (BM.le.rfl' _)) ow c6 c7 c8 c10 c11 c16 hj hmj hm (hE2.mono hle3) (hR2.mono hle3) ?_
  intro Γ4 ou4 es4 c4 sl4 td4 Hv4 B4 b4 hle4 hb4 hext4 hu4 hS4 how4
  refine WE.ng_r ?_
  exact end_2 rfl rfl rfl (hle13.trans hle4) ⟨ou4, es4, c4, sl4, td4, Hv4, B4, b4, d, rfl, hj, hb4, hext4, hu4, hS4, how4, rfl⟩
theorem rt_sub : ∀ n : Nat, RTc pd pu l ds (.string nm) pm pf n
 | 0 => rt_step 0 fun m h => by cases h
 | n + 1 => rt_step (n + 1) fun m h => by
  have : m = n := by omega
  subst this
  intro Γ F O B es c td sl Hv pr j o ou d
  exact rt_sub m
end
section
variable {Γ : Env} {l : Lay} {ds : List Df} {B : BM} {es : List MapEntry}
theorem freezeZ {F : List Blk} {w : World} : ∀ {dz : TZs} {Γ : Env}, St Γ (tdZ dz ++ F) w → ∃ Γ', Γ.le Γ' ∧ St Γ' F w ∧ ∀ x ∈ dz, Γ'.imm x.1.1 = some (cel [.int .i64 x.2, .string x.1.2.1, x.1.2.2] 249)
 | [], Γ, h => ⟨Γ, Env.le.rfl' _, h, fun x hx => by cases hx⟩
 | y :: dz, Γ, h => by
  have h' : St Γ ((y.1.1, cel [.int .i64 y.2, .string y.1.2.1, y.1.2.2] 249) :: (tdZ dz ++ F)) w := h
  obtain ⟨Γ', hle, hst, hx⟩ := freezeZ (dz := dz) h'.freeze
  refine ⟨Γ', (h'.le_add).trans hle, hst, fun x hm => ?_⟩
  rcases List.mem_cons.1 hm with rfl | hm
  ·exact hle.imm _ _ (by simp [Env.add])
  ·exact hx x hm
theorem TS.settle {Γ' : Env} {dz : TZs} (hle : Γ.le Γ') (h : TS Γ l ds [] B es (dz.map Prod.fst)) (hx : ∀ x ∈ dz, Γ'.imm x.1.1 = some (cel [.int .i64 x.2, .string x.1.2.1, x.1.2.2] 249)) : TS Γ' l ds [] B es [] := by
 obtain ⟨h1, h2, h0, h3, h4, h5, h6, h7⟩ := h.mono hle
 refine ⟨h1, h2, h0, h3, fun j d b hj hb hO => ?_, h5, (fun x hx => by cases hx), by simp only [List.length_nil] at h7 ⊢; omega⟩
 rcases h4 j d b hj hb hO with h | ⟨h12, v, hm, hkv⟩
 ·exact .inl h
 ·refine .inl ?_
  obtain ⟨p, hp, he⟩ := List.mem_map.1 hm
  have := hx p hp
  rw [he] at this
  unfold ObjC
  rw [if_neg (by omega), if_neg (by omega), if_neg (by omega), if_pos h12]
  exact ⟨_, _, this, hkv⟩
theorem apply_ok {td : TDs} {pf : Nat} {sl : Value} {Hv F : List Blk} (hS : TS Γ l ds [] B es td) (hok : OkDs l ds) (how : Ow 1 sl td.length (tdP td) Hv) (hn : td.length ≤ 1000000) :
  Spc Tryz.prog 62 #[.pointer (some ⟨pf, 0, none⟩)] Γ ((pf, cel [sl, nilS] 172) :: (tdB td ++ (Hv ++ F))) (fun r Γ' H' => r = .tuple #[] ∧ TS Γ' l ds [] B es [] ∧ H' = F) :=
 ⟨fun w hw => ((apply_walk hS hok how hn).go w hw).mono fun e w' ⟨v, Γ1, H1, he, hle, hst, hv, dz, hdz, hH⟩ => by
  subst hH
  subst hdz
  obtain ⟨Γ2, hle2, hst2, hx⟩ := freezeZ hst
  exact ⟨v, Γ2, F, he, hle.trans hle2, hst2, hv, hS.settle (hle.trans hle2) hx, rfl⟩⟩
theorem fix_ok {td : TDs} {pf : Nat} {sl : Value} {Hv F : List Blk} (hS : TS Γ l ds [] B es td) (hok : OkDs l ds) (how : Ow 1 sl td.length (tdP td) Hv) (hn : td.length ≤ 1000000) :
  SpcD Tryz.prog 61 #[.pointer (some ⟨pf, 0, none⟩)] Γ ((pf, cel [sl, nilS] 172) :: (tdB td ++ (Hv ++ F))) (fun r Γ' H' => TS Γ' l ds [] B es [] ∧ H' = F) := by
 refine SpcD.of_body (vs := [.pointer (some ⟨pf, 0, none⟩)]) Tryz.func61 rfl Tryz.ntmps61 rfl ?_
 refine hz_ ?_
 refine WL.call rfl Tryz.call62 rfl rfl (by exact (apply_ok hS hok how hn)) ?_
 rintro _ Γ1 _ hle ⟨rfl, hS1, rfl⟩
 refine hz_ ?_
 exact end_0 rfl hle ⟨hS1, rfl⟩
end
section
variable {pd pu : Nat} {l : Lay} {ds : List Df} {nm : ByteArray} {pm : Nat}
theorem rt_root {Γ : Env} {F : List Blk} {B : BM} {es : List MapEntry} {c pr j : Nat} {o ou : Obj} {d : Df} (tx : TX Γ pd pu l ds) (ux : UX Γ l ds ou) (ts : TS Γ l ds [] B es []) (hF : RF pd o) (hj : ds[j]? = some d) :
  Spc Tryz.prog 42 #[.pointer (some ⟨pd, 0, none⟩), .string nm, .iface 124 (.pointer (some ⟨pr, 0, none⟩)), .int .u32 ((nodO l ds (rtI ds j) : Nat) : Int), .map (some pm), .pointer none] Γ ((pr, o) :: (pu, ou) :: (pm, .map es.toArray c) :: F)
   (fun v Γ' H' => ∃ (ou : Obj) (es : List MapEntry) (c : Nat) (B' : BM) (b : Nat), v = .tuple #[pkey (tyP d.kind) b, .nilIface] ∧ B' j 0 = some b ∧ B.le B' ∧ UX Γ' l ds ou ∧ TS Γ' l ds [] B' es [] ∧ H' = (pu, ou) :: (pm, .map es.toArray c) :: F) := by
 have hmap := ts.map
 have hjl := (List.getElem?_eq_some_iff.1 hj).1
 have hmj := hmap.2 j d hj
 refine Spc.of_bodyD (vs := [.pointer (some ⟨pd, 0, none⟩), .string nm, .iface 124 (.pointer (some ⟨pr, 0, none⟩)), .int .u32 ((nodO l ds (rtI ds j) : Nat) : Int), .map (some pm), .pointer none]) Tryz.func42 rfl Tryz.ntmps42 rfl ?_
 refine WC.np ?_
 refine WC.seq ?_
 refine WC.region ?_
 (refine WL.box rfl spi_ rfl ?_; intro b6)
 (refine WL.box rfl spi_ rfl ?_; intro b7)
 (refine WL.box rfl spi_ rfl ?_; intro b8)
 (refine WL.box rfl spi_ rfl ?_; intro b10)
 (refine WL.box rfl spi_ rfl ?_; intro b11)
 refine hz_ ?_
 cases e : mfind ((nodO l ds (rtI ds j) : Nat) : Int) es 0 with
 | some p =>
  obtain ⟨q, v⟩ := p
  rw [e] at hmj
  obtain ⟨b, hb, rfl⟩ := hmj
  refine WL.lookup tab_ok rfl rfl rfl rfl rfl (.inr ⟨_, pk_⟩) hmap.1 (v := .tuple #[pkey (tyP d.kind) b, .bool true]) (by rw [e]; rfl) rfl ?_
  refine hz_ ?_
  refine WE.re (H2 := (pu, ou) :: (pm, .map es.toArray c) :: F) sn_ ?_
  exact endD_20 rfl rfl rfl (Env.le.rfl' _) ⟨ou, es, c, B, b, rfl, hb, BM.le.rfl' _, ux, ts, rfl⟩
 | none =>
  rw [e] at hmj
  refine WL.lookup tab_ok rfl rfl rfl rfl rfl (.inr ⟨_, pk_⟩) hmap.1 (v := .tuple #[.nilIface, .bool false]) (by rw [e]; rfl) rfl ?_
  refine hz_ ?_
  refine WL.invoke rfl (fun w => run_method_ptr Tryz.underlying124 (by kernel_rfl) _ _ w) Tryz.call71 rfl rfl (by exact (seekN_ok tx ux pk_ pk_ hF hj)) ?_
  rintro _ Γ1 _ hle1 ⟨rfl, o1, ou1, hR1, hu1, rfl⟩
  refine hz_ ?_
  refine WL.invoke rfl (fun w => run_method_ptr Tryz.underlying124 (by kernel_rfl) _ _ w) Tryz.call156 rfl rfl (by exact (nextN_ok (tx.mono hle1) hu1 pk_ pk_ hR1 (hdN_at hj) (hd_tag d) rfl)) ?_
  rintro _ Γ2 _ hle2 ⟨pe, o2, rfl, hE2, hR2, rfl⟩
  have hle12 := hle1.trans hle2
  refine hz_ ?_
  (refine WL.alloc tab_ok rfl rfl ?_; intro b16)
  (refine WL.alloc tab_ok rfl rfl ?_; intro b17)
  refine hz_ ?_
  refine WL.invoke rfl (fun w => run_method_ptr Tryz.underlying124 (by kernel_rfl) _ _ w) Tryz.call155 rfl rfl (by exact (addressSize_ok (tx.mono hle12) (hu1.mono hle2) pk_ hR2 pk_)) ?_
  rintro _ _ _ - ⟨rfl, rfl, rfl⟩
  have hpl := hE2.place
  refine hz_ ?_
  rw [bne_self_eq_false]
  refine WC.condF rfl rfl ?_
  refine WC.skip ?_
  refine WE.then_ ?_
  refine WC.seq ?_
  refine WC.cutD (fun D' R' Γ' H' => ∃ pf, D' = [⟨.fn (.func 61) #[.pointer (some ⟨pf, 0, none⟩)], #[]⟩] ∧ R' = [(3, .int .u32 ((nodO l ds (rtI ds j) : Nat) : Int)), (6, .pointer (some ⟨b6, 0, none⟩)), (7, .pointer (some ⟨b7, 0, none⟩)), (8, .pointer (some ⟨b8, 0, none⟩)), (10, .pointer (some ⟨b10, 0, none⟩)), (11, .pointer (some ⟨b11, 0, none⟩)), (16, .pointer (some ⟨b16, 0, none⟩)), (17, .pointer (some ⟨b17, 0, none⟩)), (18, .int .i64 l.size)] ∧ Γ2.le Γ' ∧ Γ'.cell b6 0 = some (.pointer (some ⟨pd, 0, none⟩)) ∧ Γ'.cell b7 0 = some (.string nm) ∧ Γ'.cell b8 0 = some (.iface 124 (.pointer (some ⟨pr, 0, none⟩))) ∧ Γ'.cell b10 0 = some (.map (some pm)) ∧ Γ'.cell b11 0 = some (.pointer (some ⟨pf, 0, none⟩)) ∧ Γ'.cell b16 0 = some (.pointer (some ⟨pe, 0, none⟩)) ∧
   H' = (b17, cel [.nilIface] 77) :: (pr, o2) :: RSH pu ou1 pm es c pf nilS [] [] F) ?_ ?_
  ·refine hz_ ?_
   (refine WL.alloc tab_ok rfl rfl ?_; intro pf)
   refine hz_ ?_
   refine WL.defer rfl ?_
   refine hz_ ?_
   refine WE.freeze (b := b6) pk_ (fun k6 => ?_)
   refine WE.freeze (b := b7) pk_ (fun k7 => ?_)
   refine WE.freeze (b := b8) pk_ (fun k8 => ?_)
   refine WE.freeze (b := b10) pk_ (fun k10 => ?_)
   refine WE.freeze (b := b11) pk_ (fun k11 => ?_)
   refine WE.freeze (b := b16) pk_ (fun k16 => ?_)
   exact WE.midD ⟨pf, rfl, rfl, k6.trans (k7.trans (k8.trans (k10.trans (k11.trans k16)))), (k7.trans (k8.trans (k10.trans (k11.trans k16)))).cell (by simp [Env.cell, Env.add]), (k8.trans (k10.trans (k11.trans k16))).cell (by simp [Env.cell, Env.add]), (k10.trans (k11.trans k16)).cell (by simp [Env.cell, Env.add]), (k11.trans k16).cell (by simp [Env.cell, Env.add]), k16.cell (by simp [Env.cell, Env.add]), by simp [Env.cell, Env.add], rfl⟩ sr_ sn_
  rintro _ _ Γ3 _ ⟨pf, rfl, rfl, hle3, c6, c7, c8, c10, c11, c16, rfl⟩
  refine WE.then_ ?_
  have hle13 := hle12.trans hle3
  have hm0 := ts.few
  obtain ⟨m, hm1⟩ : ∃ m, missL B ds.length = m + 1 := ⟨missL B ds.length - 1, by have := missL_put (b := 0) hmj hjl; omega⟩
  refine rest_ok (n := m) np_ (rt_sub m) (tx.mono hle13) (hu1.mono (hle2.trans hle3)) (ts.mono hle13) (fun x hx => by cases hx) Ow.nil c6 c7 c8 c10 c11 c16 hj hmj (by omega) (hE2.mono hle3) (hR2.mono hle3) ?_
  intro Γ4 ou4 es4 c4 sl4 td4 Hv4 B4 b4 hle4 hb4 hext4 hu4 hS4 how4
  refine WE.ng_r ?_
  refine WE.np_r ?_
  have hfew := hS4.few
  have hn1 := tx.ok.n1
  refine WE.re (H2 := (pf, cel [sl4, nilS] 172) :: (tdB td4 ++ (Hv4 ++ ((pu, ou4) :: (pm, .map es4.toArray c4) :: F)))) sn_ ?_
  refine endD_21 rfl rfl rfl (hle13.trans hle4) Tryz.call61 (cs := [.pointer (some ⟨pf, 0, none⟩)]) (fix_ok hS4 tx.ok how4 (by omega)) ?_
  rintro x Γ5 H5 hle5 ⟨hS5, rfl⟩
  exact ⟨ou4, es4, c4, B4, b4, rfl, hb4, hext4.1, hu4.mono hle5, hS5, rfl⟩
end
set_option maxHeartbeats 4000000
structure Ty where
 kind : Int
 name : ByteArray
 own : ByteArray
 size : Int
 of : Int
 count : Int
 inc : Bool
 mems : List Mem
 pars : List Int
 cons : List Con
abbrev eS : ByteArray := ⟨#[]⟩
def Ty.nil : Ty := ⟨0, eS, eS, 0, 0, 0, false, [], [], []⟩
abbrev Nd := Nat × Nat
structure TSt where
 seen : List Nd
 told : List Ty
def ixOf (x : Nd) : List Nd → Nat → Option Nat
 | [], _ => none
 | y :: l, i => if y = x then some i else ixOf x l (i + 1)
section
variable (l : Lay) (ds : List Df)
def szJ (n : Int) : Int := szF l ds (ds.length + 1) n
abbrev NumF := TSt → Nd → TSt × Int
def numOf (g : NumF) (S : TSt) (n : Int) : TSt × Int := if n = -3 then (S, -3) else if n < 0 then (S, -2) else g S (n.toNat, 0)
def numsP (g : NumF) : TSt → List Int → TSt × List Int
 | S, [] => (S, [])
 | S, p :: ps => ((numsP g (numOf g S p).1 ps).1, (numOf g S p).2 :: (numsP g (numOf g S p).1 ps).2)
def numsM (g : NumF) : TSt → List Mem → TSt × List Mem
 | S, [] => (S, [])
 | S, m :: ms => ((numsM g (numOf g S m.of).1 ms).1, ⟨m.name, m.off, (numOf g S m.of).2⟩ :: (numsM g (numOf g S m.of).1 ms).2)
def recT (g : NumF) (S : TSt) (j q : Nat) (d : Df) : TSt × Ty :=
 if d.kind = 9 then ((numOf g S d.of).1, ⟨9, eS, eS, l.size, (numOf g S d.of).2, 0, false, [], [], []⟩)
 else if d.kind = 12 then ((numOf g S d.of).1, ⟨12, d.name, eS, szJ l ds d.of, (numOf g S d.of).2, 0, false, [], [], []⟩)
 else if d.kind = 13 then ((numOf g S d.of).1, ⟨13, eS, qualS d.which, szJ l ds d.of, (numOf g S d.of).2, 0, false, [], [], []⟩)
 else if d.kind = 11 then
  let r := if q + 1 < d.cnts.length then g S (j, q + 1) else numOf g S d.of
  (r.1, ⟨11, eS, eS, szA (szJ l ds d.of) (d.cnts.drop q), r.2, d.cnts.getD q 0, false, [], [], []⟩)
 else if d.kind = 15 then
  let r := numOf g S d.of
  let s := numsP g r.1 d.pars
  (s.1, ⟨15, eS, eS, 0, r.2, 0, false, [], s.2, []⟩)
 else if d.kind = 10 then
  let s := numsM g S d.mems
  (s.1, ⟨10, d.name, kindS d.which, if d.inc then 0 else d.size, -1, 0, d.inc, s.2, [], []⟩)
 else if d.kind = 14 then (S, ⟨14, d.name, eS, d.size, -1, 0, false, [], [], d.cons⟩)
 else if d.kind = 16 then (S, ⟨16, d.name, eS, 0, -1, 0, false, [], [], []⟩)
 else (S, ⟨d.kind, d.name, eS, d.size, -1, 0, false, [], [], []⟩)
def numNd : Nat → NumF
 | 0, S, x => (S, match ixOf x S.seen 0 with | some i => (i : Int) | none => 0)
 | f + 1, S, x => match ixOf x S.seen 0 with
  | some i => (S, (i : Int))
  | none => match ds[x.1]? with
   | none => (S, 0)
   | some d =>
    let r := recT l ds (numNd f) ⟨S.seen ++ [x], S.told ++ [Ty.nil]⟩ x.1 x.2 d
    (⟨r.1.seen, r.1.told.set S.seen.length r.2⟩, (S.seen.length : Int))
end
def allN (ds : List Df) : List Nd := (List.range ds.length).flatMap fun j => (List.range 5).map fun q => (j, q)
def missN (ds : List Df) (S : List Nd) : Nat := ((allN ds).filter fun x => !S.contains x).length
theorem allN_mem {ds : List Df} {j q : Nat} (hj : j < ds.length) (hq : q < 5) : (j, q) ∈ allN ds := List.mem_flatMap.2 ⟨j, List.mem_range.2 hj, List.mem_map.2 ⟨q, List.mem_range.2 hq, rfl⟩⟩
theorem missN_le {ds : List Df} {S S' : List Nd} (h : ∀ x ∈ S, x ∈ S') : missN ds S' ≤ missN ds S := filter_le (fun x hx => by
 rw [Bool.not_eq_true'] at hx ⊢
 cases e : S.contains x with
 | false => rfl
 | true =>
  have : x ∈ S' := h x (by simpa using e)
  simp [this] at hx) _
theorem missN_snoc {ds : List Df} {S : List Nd} {x : Nd} (hx : x ∉ S) (hj : x.1 < ds.length) (hq : x.2 < 5) : missN ds (S ++ [x]) < missN ds S := filter_lt (fun y hy => by
 rw [Bool.not_eq_true'] at hy ⊢
 cases e : S.contains y with
 | false => rfl
 | true => simp at e hy; exact absurd e hy.1) (y := x) (allN_mem (j := x.1) (q := x.2) hj hq) (by simp [hx]) (by simp)
theorem ixOf_none {x : Nd} : ∀ {l : List Nd} {i : Nat}, ixOf x l i = none → x ∉ l
 | [], _, _ => by simp
 | y :: l, i, h => by
  unfold ixOf at h
  by_cases e : y = x
  ·rw [if_pos e] at h; cases h
  ·rw [if_neg e] at h
   have := ixOf_none h
   simp only [List.mem_cons, not_or]
   exact ⟨fun e' => e e'.symm, this⟩
section
variable {l : Lay} {ds : List Df}
def Grow (g : NumF) : Prop := ∀ S x, ∀ y ∈ S.seen, y ∈ (g S x).1.seen
theorem numOf_sub {g : NumF} (hg : Grow g) (S : TSt) (n : Int) : ∀ y ∈ S.seen, y ∈ (numOf g S n).1.seen := by
 intro y hy
 unfold numOf
 split
 ·exact hy
 ·split
  ·exact hy
  ·exact hg S _ y hy
theorem numsP_sub {g : NumF} (hg : Grow g) : ∀ (ps : List Int) (S : TSt), ∀ y ∈ S.seen, y ∈ (numsP g S ps).1.seen
 | [], _, _, hy => hy
 | p :: ps, S, y, hy => numsP_sub hg ps _ y (numOf_sub hg S p y hy)
theorem numsM_sub {g : NumF} (hg : Grow g) : ∀ (ps : List Mem) (S : TSt), ∀ y ∈ S.seen, y ∈ (numsM g S ps).1.seen
 | [], _, _, hy => hy
 | p :: ps, S, y, hy => numsM_sub hg ps _ y (numOf_sub hg S p.of y hy)
theorem recT_sub {g : NumF} (hg : Grow g) (S : TSt) (j q : Nat) (d : Df) : ∀ y ∈ S.seen, y ∈ (recT l ds g S j q d).1.seen := by
 intro y hy
 unfold recT
 split
 ·exact numOf_sub hg S _ y hy
 split
 ·exact numOf_sub hg S _ y hy
 split
 ·exact numOf_sub hg S _ y hy
 split
 ·simp only
  split
  ·exact hg S _ y hy
  ·exact numOf_sub hg S _ y hy
 split
 ·exact numsP_sub hg _ _ y (numOf_sub hg S _ y hy)
 split
 ·exact numsM_sub hg _ _ y hy
 split
 ·exact hy
 split
 ·exact hy
 ·exact hy
theorem numNd_sub : ∀ f : Nat, Grow (numNd l ds f)
 | 0 => fun S x y hy => hy
 | f + 1 => fun S x y hy => by
  unfold numNd
  cases ixOf x S.seen 0 with
  | some i => exact hy
  | none =>
   cases ds[x.1]? with
   | none => exact hy
   | some d => exact recT_sub (numNd_sub f) _ _ _ _ y (List.mem_append_left _ hy)
end
def TyC (Γ : Env) (x : Ty) (c : List Value) : Prop := ∃ vm vp vc, c = [.int .i64 x.kind, .string x.name, .string x.own, .int .i64 x.size, .int .i64 x.of, .int .i64 x.count, .bool x.inc, vm, vp, vc] ∧ Arr Γ MemC vm x.mems ∧ Arr Γ NumC vp x.pars ∧ Arr Γ ConC vc x.cons
theorem TyC.mono {Γ Γ' : Env} (hle : Γ.le Γ') {x : Ty} {c : List Value} (h : TyC Γ x c) : TyC Γ' x c := by
 obtain ⟨vm, vp, vc, h1, h2, h3, h4⟩ := h
 exact ⟨vm, vp, vc, h1, h2.mono hle fun _ _ h => h, h3.mono hle fun _ _ h => h, h4.mono hle fun _ _ h => h⟩
theorem TyC.len {Γ : Env} {x : Ty} {c : List Value} (h : TyC Γ x c) : c.length = 10 := by obtain ⟨_, _, _, rfl, -⟩ := h; rfl
theorem TyC.one {Γ : Env} {x : Ty} {c : List Value} (h : TyC Γ x c) : ∀ y ∈ c, y.oneCell' = true := by
 obtain ⟨vm, vp, vc, rfl, ⟨_, _, _, rfl, -⟩, ⟨_, _, _, rfl, -⟩, ⟨_, _, _, rfl, -⟩⟩ := h
 intro y hy
 simp only [List.mem_cons, List.not_mem_nil, or_false] at hy
 rcases hy with rfl | rfl | rfl | rfl | rfl | rfl | rfl | rfl | rfl | rfl <;> rfl
theorem arrN {Γ : Env} {α : Type} {P : α → List Value → Prop} : Arr Γ P nilS [] := ⟨none, 0, [], rfl, Nat.le_refl _, fun _ _ h => by simp at h, rfl⟩
theorem TyC.nil {Γ : Env} : TyC Γ Ty.nil [.int .i64 0, .string eS, .string eS, .int .i64 0, .int .i64 0, .int .i64 0, .bool false, nilS, nilS, nilS] := ⟨nilS, nilS, nilS, rfl, arrN, arrN, arrN⟩
def SeenL (ds : List Df) (B : BM) : List Nd → Nat → List (TypeId × Nat × Value)
 | [], _ => []
 | x :: l, i => (tyP ((ds[x.1]?).elim 0 Df.kind), (B x.1 x.2).getD 0, .int .i64 (i : Int)) :: SeenL ds B l (i + 1)
theorem SeenL_snoc (ds : List Df) (B : BM) (x : Nd) : ∀ (l : List Nd) (i : Nat), SeenL ds B (l ++ [x]) i = SeenL ds B l i ++ [(tyP ((ds[x.1]?).elim 0 Df.kind), (B x.1 x.2).getD 0, .int .i64 ((i + l.length : Nat) : Int))]
 | [], i => by simp [SeenL]
 | y :: l, i => by
  rw [List.cons_append, SeenL, SeenL_snoc ds B x l (i + 1), SeenL, List.cons_append, List.length_cons, show i + 1 + l.length = i + (l.length + 1) by omega]
theorem pfind_seen {Γ : Env} {l : Lay} {ds : List Df} {B : BM} {es : List MapEntry} (hS : TS Γ l ds [] B es []) {x : Nd} {d : Df} {b : Nat} (hd : ds[x.1]? = some d) (hb : B x.1 x.2 = some b) : ∀ (L : List Nd) (i : Nat), (∀ y ∈ L, ∃ c, B y.1 y.2 = some c) →
  pfind (tyP d.kind) b (SeenL ds B L i) i = (ixOf x L i).map fun k => (k, .int .i64 (k : Int))
 | [], i, _ => rfl
 | y :: L, i, h => by
  obtain ⟨c, hc⟩ := h y (List.mem_cons_self ..)
  unfold SeenL pfind ixOf
  by_cases e : y = x
  ·subst e
   rw [hd, hb]
   simp
  ·rw [if_neg e, if_neg, pfind_seen hS hd hb L (i + 1) fun y hy => h y (List.mem_cons_of_mem _ hy)]
   rw [hc]
   rintro ⟨-, e2⟩
   simp only [Option.getD_some] at e2
   subst e2
   obtain ⟨h1, h2⟩ := hS.inj _ _ _ _ _ hc hb
   exact e (Prod.ext h1 h2)
structure GR (Γ : Env) (ds : List Df) (B : BM) (S : TSt) (tv : Value) (Ht : List Blk) (ge : List MapEntry) : Prop where
 len : S.told.length = S.seen.length
 has : ∀ y ∈ S.seen, ∃ c, B y.1 y.2 = some c
 map : PEs ge (SeenL ds B S.seen 0)
 told : ∃ cells, Ow 10 tv S.told.length cells Ht ∧ LisC (TyC Γ) S.told cells
 few : S.seen.length + missN ds S.seen ≤ 1000
theorem TS.key {Γ : Env} {l : Lay} {ds : List Df} {B : BM} {es : List MapEntry} (hS : TS Γ l ds [] B es []) {j q b : Nat} (hb : B j q = some b) : KeyB Γ b := by
 have hj := hS.lt _ _ _ hb
 obtain ⟨d, hd⟩ : ∃ d, ds[j]? = some d := ⟨_, List.getElem?_eq_getElem hj⟩
 cases q with
 | succ q =>
  obtain ⟨d, -, -, z, n, v, -, h2, -⟩ := hS.dir j q b hb
  exact ⟨_, _, h2⟩
 | zero =>
  rcases hS.done j d b hd hb (by simp) with h1 | ⟨-, v, h1, -⟩
  ·obtain ⟨c, t, h2⟩ := h1.imm
   exact ⟨_, _, h2⟩
  ·cases h1
theorem GR.mono {Γ Γ' : Env} (hle : Γ.le Γ') {ds : List Df} {B : BM} {S : TSt} {tv : Value} {Ht : List Blk} {ge : List MapEntry} (h : GR Γ ds B S tv Ht ge) : GR Γ' ds B S tv Ht ge := by
 obtain ⟨h1, h2, h3, ⟨cells, h4, h5⟩, h6⟩ := h
 exact ⟨h1, h2, h3, ⟨cells, h4, h5.imp fun _ _ h => h.mono hle⟩, h6⟩
set_option maxHeartbeats 40000000
section
variable {Γ : Env} {l : Lay} {ds : List Df} {B : BM} {es : List MapEntry}
abbrev GHp (pg pq : Nat) (tv : Value) (ge : List MapEntry) (gc : Nat) (Ht F : List Blk) : List Blk := (pg, cel [.map (some pq), tv] 84) :: (pq, .map ge.toArray gc) :: (Ht ++ F)
def NmP (pg pq : Nat) (ds : List Df) (B : BM) (F : List Blk) (R : TSt × Int) (r : Value) (Γ' : Env) (H' : List Blk) : Prop :=
 ∃ (tv' : Value) (Ht' : List Blk) (ge' : List MapEntry) (gc' : Nat), r = .int .i64 R.2 ∧ GR Γ' ds B R.1 tv' Ht' ge' ∧ H' = GHp pg pq tv' ge' gc' Ht' F
def NmC (Γ0 : Env) (l : Lay) (ds : List Df) (B : BM) (pg pq : Nat) (f : Nat) : Prop :=
 ∀ {Γ : Env} {F : List Blk} {S : TSt} {tv : Value} {Ht : List Blk} {ge : List MapEntry} {gc : Nat} {x : Nd} {d : Df} {b : Nat}, Γ0.le Γ → GR Γ ds B S tv Ht ge → ds[x.1]? = some d → B x.1 x.2 = some b → missN ds S.seen ≤ f →
  Spc Tryz.prog 29 #[.pointer (some ⟨pg, 0, none⟩), pkey (tyP d.kind) b] Γ (GHp pg pq tv ge gc Ht F) (NmP pg pq ds B F (numNd l ds f S x))
theorem num_kv {Γ0 : Env} {pg pq f : Nat} (ih : NmC Γ0 l ds B pg pq f) {F : List Blk} {S : TSt} {tv : Value} {Ht : List Blk} {ge : List MapEntry} {gc : Nat} {n : Int} {v : Value} (hle : Γ0.le Γ) (hG : GR Γ ds B S tv Ht ge) (hv : KV Γ0 B ds n v) (hm : missN ds S.seen ≤ f) :
  Spc Tryz.prog 29 #[.pointer (some ⟨pg, 0, none⟩), v] Γ (GHp pg pq tv ge gc Ht F) (NmP pg pq ds B F (numOf (numNd l ds f) S n)) := by
 unfold KV at hv
 unfold numOf
 by_cases h3 : n = -3
 ·rw [if_pos h3] at hv ⊢
  obtain ⟨b, rfl⟩ := hv
  refine Spc.body2 Tryz.func29 rfl Tryz.ntmps29 rfl ?_
  refine hz_ ?_
  exact end_1 rfl rfl (Env.le.rfl' _) ⟨tv, Ht, ge, gc, rfl, hG, rfl⟩
 rw [if_neg h3] at hv ⊢
 by_cases h0 : n < 0
 ·rw [if_pos h0] at hv ⊢
  obtain ⟨b, rfl, -⟩ := hv
  refine Spc.body2 Tryz.func29 rfl Tryz.ntmps29 rfl ?_
  refine hz_ ?_
  exact end_1 rfl rfl (Env.le.rfl' _) ⟨tv, Ht, ge, gc, rfl, hG, rfl⟩
 rw [if_neg h0] at hv ⊢
 obtain ⟨d, b, hd, hb, rfl⟩ := hv
 exact ih (x := (n.toNat, 0)) hle hG hd hb hm
theorem basicT_ok {H : List Blk} {k k0 z : Int} {b : Nat} {c : List Value} {T : TypeId} {nmb : ByteArray} (h1 : 1 ≤ k) (h8 : k ≤ 8) (hi : Γ.imm b = some (cel (.int .i64 z :: .string nmb :: c) T)) :
  Spc Tryz.prog 72 #[.int .i64 k0, pkey (tyP k) b] Γ H (fun r Γ' H' => Γ = Γ' ∧ H' = H ∧ r = .agg #[.int .i64 k0, .string nmb, .string eS, .int .i64 z, .int .i64 (-1), .int .i64 0, .bool false, nilS, nilS, nilS]) := by
 have hn : Γ.cell b (0 + 1) = some (.string nmb) := cell_of hi rfl
 refine Spc.body2 Tryz.func72 rfl Tryz.ntmps72 rfl ?_
 refine hz_ ?_
 (refine WL.alloc tab_ok rfl rfl ?_; intro b4)
 refine hz_ ?_
 refine WC.draw 9 (.take 0 (.take 1 (.take 6 (.one 2 (.take 3 (.take 4 (.take 5 (.one 7 (.take 8 (.one 9 .done)))))))))) ([] : List Blk) mixed hsb_ (by decide +kernel) ?_
 refine jz_ ?_
 refine WL.invoke rfl (metC h1 (by omega) b) Tryz.call91 rfl rfl common_ok ?_
 rintro _ _ _ - ⟨rfl, rfl, rfl⟩
 refine jz_ ?_
 obtain ⟨t, u, f, rv, ev, hm, hcf, hs⟩ := szc_basic (H := (b4, cel [.int .i64 0, .string eS, .string eS, .int .i64 0, .int .i64 0, .int .i64 0, .bool false, nilS, nilS, nilS] 46) :: H) h1 (.inl (by omega)) (by omega) (.inl (cell_of hi rfl) : Rd Γ _ b 0 (.int .i64 z))
 refine WL.invoke (congrArg some ev) hm hcf rfl rfl hs ?_
 rintro _ _ _ - ⟨rfl, rfl, rfl⟩
 refine jz_ ?_
 refine hz_ ?_
 exact end_c tab_ok rfl rfl rfl rfl pk_ rfl (Env.le.rfl' _) ⟨rfl, rfl, rfl⟩
end
end Go.Proofs.YtbgkbgoonjkghaaGreatDoor
