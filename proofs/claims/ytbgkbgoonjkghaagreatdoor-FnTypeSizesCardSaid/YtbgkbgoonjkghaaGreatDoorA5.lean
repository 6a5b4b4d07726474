/- Parts of the proof: Eb Ec Ed Ee Ef Eg Eh Ga Gb Gc Gd Ge Gf. -/
import Derived.Test.YtbgkbgoonjkghaaGreatDoorA3
import Derived.Test.YtbgkbgoonjkghaaGreatDoorA4
namespace Go.Proofs.YtbgkbgoonjkghaaGreatDoor
open Go Go.Sl
set_option maxRecDepth 10000
set_option maxHeartbeats 40000000
abbrev zField : List Value := [.int .u32 0, .nilIface, .int .i64 0]
theorem entry_ok {Γ : Env} {H F : List Blk} {p pd pu ou : Nat} {c : Ctx} {a : Abb} {its : List Itm} {abs : List Abb} {r : Nat} {es : List MapEntry} {cm off : Nat} {nm d cu ds dl : Value} {post : List Value} {T : TypeId} {l : List UInt8}
  (hG : Glob Γ) (hp : Pick H p (cel (bufc (.pointer (some ⟨pd, 0, none⟩)) (.bool c.big) (ufmt pu ou) nm off d .nilIface post) T) F)
  (hd : Byt Γ d (ulebL a.code ++ (itexts its ++ l)))
  (hu0 : Rd Γ F pu (ou + 0) (.int .u32 (c.base : Int))) (hu3 : Rd Γ F pu (ou + 3) (.map (some r))) (hu5 : Rd Γ F pu (ou + 5) (.int .i64 (c.size : Int))) (hu6 : Rd Γ F pu (ou + 6) (.int .i64 c.vers)) (hu7 : Rd Γ F pu (ou + 7) (.bool c.wide))
  (hr : Γ.imm r = some (.map es.toArray cm)) (hes : AbEnts Γ c.vers abs es) (hdis : abs.Pairwise (fun a b => a.code ≠ b.code)) (ha : a ∈ abs) (hoa : OkA a)
  (hfs : a.fs = its.map Itm.abF) (hits : ∀ x ∈ its, OkItm c x) (hcs : c.size = 4 ∨ c.size = 8)
  (hd7 : Rd Γ F pd 7 ds) (hbs : Byt Γ ds c.str) (hd9 : Rd Γ F pd 9 dl) (hbl : Byt Γ dl c.lin) (hd14 : Rd Γ F pd 14 (.bool c.big)) (hsl : c.str.length < 2147483648) (hll : c.lin.length < 2147483648)
  (hsz : off + (ulebL a.code).length + (itexts its).length + l.length ≤ 2147483648) (hn : its.length < 2147483648) :
  Spc Tryz.prog 113 #[.pointer (some ⟨p, 0, none⟩), cu, .pointer (some ⟨pu, ou, none⟩)] Γ H (fun v Γ' H' => ∃ pe d', v = .pointer (some ⟨pe, 0, none⟩) ∧ EntR Γ' pe off a.tag a.ch its c.vers ∧ Byt Γ' d' l ∧
   H' = (p, cel (bufc (.pointer (some ⟨pd, 0, none⟩)) (.bool c.big) (ufmt pu ou) nm (off + (ulebL a.code).length + (itexts its).length) d' .nilIface post) T) :: F) := by
 refine Spc.perm ?_ hp.perm
 have hcode := hoa.code
 have hcpos := hoa.pos
 have hwcode : IntKind.u32.wrap (a.code : Int) = (a.code : Int) := w_u32 (by omega) (by omega)
 obtain ⟨j, ev, hfind, sl, rfl, him⟩ := hes.hit (i := 0) hdis ha
 refine Spc.body3 Tryz.func113 rfl Tryz.ntmps113 rfl ?_
 refine WC.seq ?_
 refine WC.region ?_
 (refine WL.box rfl spi_ rfl ?_; intro b)
 refine gx_ ?_
 refine WC.draw 15 (.take 0 (.take 1 (.take 2 (.take 3 (.take 4 (.take 5 (.take 6 (.take 7 (.take 8 (.take 9 (.take 10 (.take 11 (.one 12 (.one 13 (.one 14 .done))))))))))))))) (F) mixed xsb_ (by decide +kernel) ?_
 refine dx_ ?_
 refine gx_ ?_
 refine WL.call rfl Tryz.call69 rfl rfl (by exact (buf_uleb (by omega) pk_ hd (by omega))) ?_
 rintro _ _ _ - ⟨rfl, rfl, d1, hd1, rfl⟩
 refine gx_ ?_
 rw [hwcode]
 refine WC.condF rfl (beq_eq_false_iff_ne.2 (by omega)) ?_
 refine gx_ ?_
 have hln : a.fs.length = its.length := by rw [hfs, List.length_map]
 rw [hln] at him
 obtain ⟨aS, capS, rfl, hcapS, himA⟩ := him
 refine WL.lookup tab_ok rfl rfl rfl rfl rfl (.inl hr) hes.keys (v := .tuple #[.agg #[.int .u32 (a.tag : Int), .bool a.ch, .slice aS its.length capS], .bool true]) (by rw [hfind]; rfl) rfl ?_
 refine gx_ ?_
 (refine WL.alloc tab_ok rfl rfl ?_; intro b12)
 refine gx_ ?_
 refine WC.draw 12 (.take 0 (.take 1 (.take 2 (.take 3 (.take 4 (.take 5 (.take 6 (.one 7 (.one 8 (.take 9 (.one 10 (.one 11 .done)))))))))))) ((b12, _) :: F) mixed xsb_ (by decide +kernel) ?_
 refine dx_ ?_
 (refine WL.make tab_ok rfl rfl rfl rfl rfl rfl rfl rfl (by omega) (by omega) (by omega) rfl ?_; intro pf)
 refine dx_ ?_
 (refine WL.box rfl spi_ rfl ?_; intro pe)
 refine dx_ ?_
 refine gx_ ?_
 rw [show ((its.length : Nat) : Int).toNat = its.length from rfl]
 refine WC.loopE (fun m R' Γ' H' => ∃ i o dj cs, R' = [(2, .pointer (some ⟨pu, ou, none⟩)), (3, .pointer (some ⟨b, 0, none⟩)), (8, .int .u32 (c.base : Int)), (9, .int .i64 c.vers), (12, .pointer (some ⟨b12, 0, none⟩)), (14, .pointer (some ⟨pe, 0, none⟩)), (90, .int .i64 (its.length : Int)), (91, .int .i64 ((i : Nat) : Int))] ∧ Γ = Γ' ∧
   H' = (p, cel (bufc (.pointer (some ⟨pd, 0, none⟩)) (.bool c.big) (ufmt pu ou) nm o dj .nilIface post) T) :: (b, cel [.pointer (some ⟨p, 0, none⟩)] 299) :: (b12, cel [.int .u32 (a.tag : Int), .bool a.ch, .slice aS its.length capS] 316) :: (pe, cel [.int .u32 (off : Int), .int .u32 (a.tag : Int), .bool a.ch, .slice (some ⟨pf, 0, none⟩) its.length its.length] 168) :: (pf, cel (cs ++ reps (its.length - i) zField) 294) :: F ∧
   m = its.length - i ∧ i ≤ its.length ∧ Byt Γ dj (itexts (its.drop i) ++ l) ∧ o + (itexts (its.drop i)).length = off + (ulebL a.code).length + (itexts its).length ∧ FCs Γ c.vers (its.take i) cs)
   ⟨0, off + (ulebL a.code).length, d1, [], rfl, rfl, rfl, rfl, Nat.zero_le _, hd1, rfl, rfl⟩ sr_ sm_ ?_
 clear hd hd1 hfind hdis ha hes hr hu0 hu3
 rintro m R' Γ' H' ⟨i, o, dj, cs, rfl, rfl, rfl, rfl, hi, hdj, ho, hcs'⟩
 have hcl : cs.length = i * 3 := by rw [hcs'.length, List.length_take, Nat.min_eq_left hi]
 rcases Nat.lt_or_ge i its.length with hlt | hge
 case inr =>
  have ei : i = its.length := by omega
  subst ei
  refine gx_ ?_
  refine WC.condF rfl (decide_eq_false (by omega)) ?_
  refine gx_ ?_
  rw [Nat.sub_self, show reps 0 zField = [] from rfl, List.append_nil]
  rw [List.drop_length] at hdj ho
  rw [List.take_length] at hcs'
  refine WE.drop (b := b) pk_ ?_
  refine WE.drop (b := b12) pk_ ?_
  refine WE.freeze (b := pf) pk_ (fun hle1 => ?_)
  refine WE.freeze (b := pe) pk_ (fun hle2 => ?_)
  have ho2 : o = off + (ulebL a.code).length + (itexts its).length := by simpa [itexts] using ho
  rw [← ho2]
  refine end_1 rfl rfl (hle1.trans hle2) ⟨pe, dj, rfl, ⟨?_, ?_, ?_, pf, cs, 294, ?_, hle2.imm _ _ (by simp [Env.add]), hcs'.mono (hle1.trans hle2)⟩, hdj.mono (hle1.trans hle2), rfl⟩
  all_goals (simp [Env.cell, Env.add])
 case inl =>
  obtain ⟨⟨xa, xf, xi, xv, xe, xfv⟩, hx⟩ : ∃ x, its[i]? = some x := ⟨_, List.getElem?_eq_getElem hlt⟩
  have hox := hits _ (List.mem_of_getElem? hx)
  have hdec : Dec c xv xf xe xfv := hox.dec
  have hxattr : xa < 4294967296 := hox.attr
  obtain ⟨bs, os, hcell⟩ : ∃ bs os, aS = some ⟨bs, os, none⟩ ∧ ∀ k v, (fcell c.vers (Itm.mk xa xf xi xv xe xfv).abF)[k]? = some v → Γ.cell bs (os + ((i : Nat) : Int).toNat * 4 + k) = some v := by
   obtain ⟨pp, qq, h1, h2⟩ := fcells_get c.vers (l := its.map Itm.abF) (i := i) (f := (Itm.mk xa xf xi xv xe xfv).abF) (by rw [List.getElem?_map, hx]; rfl)
   rw [hfs, h1] at himA
   have hget : ∀ k v, (fcell c.vers (Itm.mk xa xf xi xv xe xfv).abF)[k]? = some v → (pp ++ (fcell c.vers (Itm.mk xa xf xi xv xe xfv).abF ++ qq))[i * 4 + k]? = some v := fun k v hk => by
    rw [List.getElem?_append_right (by omega), ← h2, Nat.add_sub_cancel_left, List.getElem?_append_left (List.getElem?_eq_some_iff.1 hk).1]; exact hk
   obtain ⟨bs, os, g1, g2⟩ := himA _ _ (hget 0 _ rfl)
   refine ⟨bs, os, g1, fun k v hk => ?_⟩
   obtain ⟨bs', os', g3, g4⟩ := himA _ _ (hget k v hk)
   rw [g1] at g3; injection g3 with g3; injection g3 with g3 g5
   subst g3 g5
   rw [Int.toNat_natCast, Nat.add_assoc]; exact g4
  obtain ⟨rfl, hcell⟩ := hcell
  have hc0 := hcell 0 _ rfl
  have hc1 := hcell 1 _ rfl
  have hc2 := hcell 2 _ rfl
  have hc3 := hcell 3 _ rfl
  have hrep : ∀ z : List Value, reps (its.length - i) z = z ++ reps (its.length - (i + 1)) z := fun z => by
   rw [show its.length - i = (its.length - (i + 1)) + 1 by omega]; rfl
  rw [hrep]
  refine gx_ ?_
  refine WC.condT rfl tr_ ?_
  refine gx_ ?_
  refine WC.draw 13 (.take 0 (.take 1 (.take 2 (.take 3 (.take 4 (.take 5 (.take 6 (.take 7 (.take 8 (.take 9 (.take 10 (.one 11 (.take 12 (.one 13 .done)))))))))))))) ([(pe, _), (b12, _)]) mixed xsb_ (by decide +kernel) ?_
  refine dx_ ?_
  refine WL.stPre (k := 0) tab_ok rfl rfl rfl pk_ spl_ (by omega) rfl rfl ?_
  refine gx_ ?_
  refine WC.draw 13 (.take 0 (.take 1 (.take 2 (.take 3 (.take 4 (.take 5 (.take 6 (.take 7 (.take 8 (.take 9 (.take 10 (.one 11 (.take 12 (.one 13 .done)))))))))))))) ([(pe, _), (b12, _)]) mixed xsb_ (by decide +kernel) ?_
  refine dx_ ?_
  refine WL.stPre (k := 2) tab_ok rfl rfl rfl pk_ spl_ (by omega) rfl rfl ?_
  refine gx_ ?_
  obtain ⟨hfk, hf22⟩ := dec_forms hdec
  have hf64 : xf < 64 := by
   simp only [formsK, List.mem_cons, List.not_mem_nil, or_false] at hfk; omega
  have hxt : itexts (its.drop i) = ((if xi then ulebL xf else []) ++ xe) ++ itexts (its.drop (i + 1)) := itexts_drop hx
  refine WC.cutM (fun R' Γ' H' => ∃ o1 d1, R' = [(2, .pointer (some ⟨pu, ou, none⟩)), (3, .pointer (some ⟨b, 0, none⟩)), (8, .int .u32 (c.base : Int)), (9, .int .i64 c.vers), (12, .pointer (some ⟨b12, 0, none⟩)), (14, .pointer (some ⟨pe, 0, none⟩)), (17, .int .i64 ((i : Nat) : Int)), (18, .int .u32 (xf : Int)), (90, .int .i64 (its.length : Int)), (91, .int .i64 ((i : Nat) : Int))] ∧ Γ = Γ' ∧
   H' = (p, cel (bufc (.pointer (some ⟨pd, 0, none⟩)) (.bool c.big) (ufmt pu ou) nm o1 d1 .nilIface post) T) :: (b, cel [.pointer (some ⟨p, 0, none⟩)] 299) :: (b12, cel [.int .u32 (a.tag : Int), .bool a.ch, .slice (some ⟨bs, os, none⟩) its.length capS] 316) :: (pe, cel [.int .u32 (off : Int), .int .u32 (a.tag : Int), .bool a.ch, .slice (some ⟨pf, 0, none⟩) its.length its.length] 168) :: (pf, cel (cs ++ (.int .u32 (xa : Int) :: .nilIface :: .int .i64 (formClass xf xa c.vers) :: reps (its.length - (i + 1)) zField)) 294) :: F ∧
   Byt Γ d1 (xe ++ (itexts (its.drop (i + 1)) ++ l)) ∧ o1 + xe.length + (itexts (its.drop (i + 1))).length = off + (ulebL a.code).length + (itexts its).length) ?_ ?_
  ·rw [hxt, List.append_assoc, List.append_assoc] at hdj
   rw [hxt, List.length_append, List.length_append] at ho
   cases hxi : xi
   case false =>
    have e1 : (Itm.mk xa xf false xv xe xfv).abF.form = xf := rfl
    have e2 : ∀ z, (Itm.mk xa xf z xv xe xfv).abF.attr = xa := fun _ => rfl
    rw [hxi] at hdj ho
    rw [hxi] at hc0 hc1 hc2 hc3
    rw [e1, e2]
    refine WC.condF rfl (beq_eq_false_iff_ne.2 (by omega)) ?_
    refine gx_ ?_
    exact WE.mid ⟨o, dj, rfl, rfl, rfl, by simpa using hdj, by simpa [Nat.add_assoc] using ho⟩ sr_ sm_
   case true =>
    have e1 : (Itm.mk xa xf true xv xe xfv).abF.form = 22 := rfl
    have e2 : ∀ z, (Itm.mk xa xf z xv xe xfv).abF.attr = xa := fun _ => rfl
    rw [hxi, if_pos rfl] at hdj ho
    rw [hxi] at hc0 hc1 hc2 hc3
    rw [e1, e2]
    refine gx_ ?_
    refine WL.call rfl Tryz.call69 rfl rfl (by exact (buf_uleb (by omega) pk_ hdj (by omega))) ?_
    rintro _ _ _ - ⟨rfl, rfl, d1, hd1, rfl⟩
    refine gx_ ?_
    have hwf : IntKind.u32.wrap (xf : Int) = (xf : Int) := w_u32 (by omega) (by omega)
    rw [hwf]
    refine WC.draw 17 (.take 0 (.take 1 (.take 2 (.take 3 (.take 4 (.take 5 (.take 6 (.take 7 (.take 8 (.take 9 (.take 10 (.take 11 (.take 12 (.take 13 (.one 14 (.one 15 (.take 16 (.one 17 .done)))))))))))))))))) ([(pe, _), (b12, _), (b, _)]) mixed xsb_ (by decide +kernel) ?_
    refine dx_ ?_
    refine WL.call rfl Tryz.call107 rfl rfl (by exact (formToClass_ok hG hfk _ _ _)) ?_
    rintro _ _ _ - ⟨rfl, rfl, rfl⟩
    refine dx_ ?_
    refine WL.stPre (k := 2) tab_ok rfl rfl rfl pk_ spl_ (by omega) rfl rfl ?_
    refine gx_ ?_
    exact WE.mid ⟨o + (ulebL xf).length, d1, rfl, rfl, rfl, hd1, by simpa [Nat.add_assoc] using ho⟩ sr_ sm_
  ·rintro R' Γ' H' ⟨o1, d1, rfl, rfl, rfl, hd1, ho1⟩
   refine gx_ ?_
   refine WC.cutM (fun R' Γ' H' => ∃ t w o2 d2, R' = [(2, .pointer (some ⟨pu, ou, none⟩)), (3, .pointer (some ⟨b, 0, none⟩)), (8, .int .u32 (c.base : Int)), (9, .int .i64 c.vers), (12, .pointer (some ⟨b12, 0, none⟩)), (14, .pointer (some ⟨pe, 0, none⟩)), (17, .int .i64 ((i : Nat) : Int)), (19, .iface t w), (90, .int .i64 (its.length : Int)), (91, .int .i64 ((i : Nat) : Int))] ∧ Γ = Γ' ∧
    H' = (p, cel (bufc (.pointer (some ⟨pd, 0, none⟩)) (.bool c.big) (ufmt pu ou) nm o2 d2 .nilIface post) T) :: (b, cel [.pointer (some ⟨p, 0, none⟩)] 299) :: (b12, cel [.int .u32 (a.tag : Int), .bool a.ch, .slice (some ⟨bs, os, none⟩) its.length capS] 316) :: (pe, cel [.int .u32 (off : Int), .int .u32 (a.tag : Int), .bool a.ch, .slice (some ⟨pf, 0, none⟩) its.length its.length] 168) :: (pf, cel (cs ++ (.int .u32 (xa : Int) :: .nilIface :: .int .i64 (formClass xf xa c.vers) :: reps (its.length - (i + 1)) zField)) 294) :: F ∧
    FVal Γ xfv (.iface t w) ∧ Byt Γ d2 (itexts (its.drop (i + 1)) ++ l) ∧ o2 + (itexts (its.drop (i + 1))).length = off + (ulebL a.code).length + (itexts its).length) ?_ ?_
   ·have hc3' : Γ.cell bs (os + ((i : Nat) : Int).toNat * 4 + 3) = some (.int .i64 xv) := hc3
    clear hc0 hc1 hc2 hc3 hcell hxt himA hits hfs hox hxattr
    cases hdec
    case addr nn hn =>
     simp only [List.length_append, fix_length, List.length_cons, List.length_nil] at ho1
     refine gx_ ?_
     refine WL.call rfl Tryz.call122 rfl rfl (by exact (buf_addr hcs hn pk_ (by (repeat (first | assumption | apply Rd.cons)); (first | done | fail)) hd1 (by omega))) ?_
     rintro _ _ _ - ⟨rfl, rfl, d2, hd2, rfl⟩
     refine gx_ ?_
     exact WE.mid ⟨_, _, o1 + c.size, d2, rfl, rfl, rfl, rfl, hd2, by omega⟩ sr_ sm_
    case blk1 ll hl =>
     rw [List.append_assoc] at hd1
     simp only [List.length_append, fix_length] at ho1
     refine gx_ ?_
     refine WC.draw 7 (.take 0 (.take 1 (.one 2 (.take 3 (.one 4 (.take 5 (.one 6 .done))))))) ([(b, _)]) mixed xsb_ (by decide +kernel) ?_
     refine dx_ ?_
     refine WL.call rfl Tryz.call68 rfl rfl (by exact (buf_u8 (by omega) pk_ hd1 (by omega))) ?_
     rintro _ _ _ - ⟨rfl, rfl, d2, hd2, rfl⟩
     refine dx_ ?_
     rw [show IntKind.i64.wrap (ll.length : Int) = (ll.length : Int) from w_i64 (by omega) (by omega)]
     refine WL.call rfl Tryz.call90 rfl rfl (by exact (buf_bytes pk_ hd2 (by omega))) ?_
     rintro vb _ _ - ⟨hvb, rfl, d3, hd3, rfl⟩
     refine dx_ ?_
     refine gx_ ?_
     exact WE.mid ⟨_, _, o1 + 1 + ll.length, d3, rfl, rfl, rfl, ⟨vb, rfl, hvb⟩, hd3, by omega⟩ sr_ sm_
    case blk2 ll hl =>
     rw [List.append_assoc] at hd1
     simp only [List.length_append, fix_length] at ho1
     refine gx_ ?_
     refine WC.draw 7 (.take 0 (.take 1 (.one 2 (.take 3 (.one 4 (.take 5 (.one 6 .done))))))) ([(b, _)]) mixed xsb_ (by decide +kernel) ?_
     refine dx_ ?_
     refine WL.call rfl Tryz.call85 rfl rfl (by exact (buf_u16 (by omega) pk_ hd1 (by omega))) ?_
     rintro _ _ _ - ⟨rfl, rfl, d2, hd2, rfl⟩
     refine dx_ ?_
     rw [show IntKind.i64.wrap (ll.length : Int) = (ll.length : Int) from w_i64 (by omega) (by omega)]
     refine WL.call rfl Tryz.call90 rfl rfl (by exact (buf_bytes pk_ hd2 (by omega))) ?_
     rintro vb _ _ - ⟨hvb, rfl, d3, hd3, rfl⟩
     refine dx_ ?_
     refine gx_ ?_
     exact WE.mid ⟨_, _, o1 + 2 + ll.length, d3, rfl, rfl, rfl, ⟨vb, rfl, hvb⟩, hd3, by omega⟩ sr_ sm_
    case blk4 ll hl =>
     rw [List.append_assoc] at hd1
     simp only [List.length_append, fix_length] at ho1
     refine gx_ ?_
     refine WC.draw 7 (.take 0 (.take 1 (.one 2 (.take 3 (.one 4 (.take 5 (.one 6 .done))))))) ([(b, _)]) mixed xsb_ (by decide +kernel) ?_
     refine dx_ ?_
     refine WL.call rfl Tryz.call88 rfl rfl (by exact (buf_u32 (by omega) pk_ hd1 (by omega))) ?_
     rintro _ _ _ - ⟨rfl, rfl, d2, hd2, rfl⟩
     refine dx_ ?_
     rw [show IntKind.i64.wrap (ll.length : Int) = (ll.length : Int) from w_i64 (by omega) (by omega)]
     refine WL.call rfl Tryz.call90 rfl rfl (by exact (buf_bytes pk_ hd2 (by omega))) ?_
     rintro vb _ _ - ⟨hvb, rfl, d3, hd3, rfl⟩
     refine dx_ ?_
     refine gx_ ?_
     exact WE.mid ⟨_, _, o1 + 4 + ll.length, d3, rfl, rfl, rfl, ⟨vb, rfl, hvb⟩, hd3, by omega⟩ sr_ sm_
    case blk ll hl =>
     rw [List.append_assoc] at hd1
     simp only [List.length_append, fix_length] at ho1
     refine gx_ ?_
     refine WC.draw 7 (.take 0 (.take 1 (.one 2 (.take 3 (.one 4 (.take 5 (.one 6 .done))))))) ([(b, _)]) mixed xsb_ (by decide +kernel) ?_
     refine dx_ ?_
     refine WL.call rfl Tryz.call69 rfl rfl (by exact (buf_uleb (by omega) pk_ hd1 (by omega))) ?_
     rintro _ _ _ - ⟨rfl, rfl, d2, hd2, rfl⟩
     refine dx_ ?_
     rw [show IntKind.i64.wrap (ll.length : Int) = (ll.length : Int) from w_i64 (by omega) (by omega)]
     refine WL.call rfl Tryz.call90 rfl rfl (by exact (buf_bytes pk_ hd2 (by omega))) ?_
     rintro vb _ _ - ⟨hvb, rfl, d3, hd3, rfl⟩
     refine dx_ ?_
     refine gx_ ?_
     exact WE.mid ⟨_, _, o1 + (ulebL ll.length).length + ll.length, d3, rfl, rfl, rfl, ⟨vb, rfl, hvb⟩, hd3, by omega⟩ sr_ sm_
    case exp ll hl =>
     rw [List.append_assoc] at hd1
     simp only [List.length_append, fix_length] at ho1
     refine gx_ ?_
     refine WC.draw 7 (.take 0 (.take 1 (.one 2 (.take 3 (.one 4 (.take 5 (.one 6 .done))))))) ([(b, _)]) mixed xsb_ (by decide +kernel) ?_
     refine dx_ ?_
     refine WL.call rfl Tryz.call69 rfl rfl (by exact (buf_uleb (by omega) pk_ hd1 (by omega))) ?_
     rintro _ _ _ - ⟨rfl, rfl, d2, hd2, rfl⟩
     refine dx_ ?_
     rw [show IntKind.i64.wrap (ll.length : Int) = (ll.length : Int) from w_i64 (by omega) (by omega)]
     refine WL.call rfl Tryz.call90 rfl rfl (by exact (buf_bytes pk_ hd2 (by omega))) ?_
     rintro vb _ _ - ⟨hvb, rfl, d3, hd3, rfl⟩
     refine dx_ ?_
     refine gx_ ?_
     exact WE.mid ⟨_, _, o1 + (ulebL ll.length).length + ll.length, d3, rfl, rfl, rfl, ⟨vb, rfl, hvb⟩, hd3, by omega⟩ sr_ sm_
    case d1 nn hn =>
     simp only [List.length_append, fix_length, List.length_cons, List.length_nil] at ho1
     refine gx_ ?_
     refine WL.call rfl Tryz.call68 rfl rfl (by exact (buf_u8 (by omega) pk_ hd1 (by omega))) ?_
     rintro _ _ _ - ⟨rfl, rfl, d2, hd2, rfl⟩
     refine gx_ ?_
     exact WE.mid ⟨_, _, o1 + 1, d2, rfl, rfl, rfl, congrArg (fun z => Value.iface 2 (.int .i64 z)) (w_i64 (by omega) (by omega)), hd2, by omega⟩ sr_ sm_
    case d2 nn hn =>
     simp only [List.length_append, fix_length, List.length_cons, List.length_nil] at ho1
     refine gx_ ?_
     refine WL.call rfl Tryz.call85 rfl rfl (by exact (buf_u16 (by omega) pk_ hd1 (by omega))) ?_
     rintro _ _ _ - ⟨rfl, rfl, d2, hd2, rfl⟩
     refine gx_ ?_
     exact WE.mid ⟨_, _, o1 + 2, d2, rfl, rfl, rfl, congrArg (fun z => Value.iface 2 (.int .i64 z)) (w_i64 (by omega) (by omega)), hd2, by omega⟩ sr_ sm_
    case d4 nn hn =>
     simp only [List.length_append, fix_length, List.length_cons, List.length_nil] at ho1
     refine gx_ ?_
     refine WL.call rfl Tryz.call88 rfl rfl (by exact (buf_u32 (by omega) pk_ hd1 (by omega))) ?_
     rintro _ _ _ - ⟨rfl, rfl, d2, hd2, rfl⟩
     refine gx_ ?_
     exact WE.mid ⟨_, _, o1 + 4, d2, rfl, rfl, rfl, congrArg (fun z => Value.iface 2 (.int .i64 z)) (w_i64 (by omega) (by omega)), hd2, by omega⟩ sr_ sm_
    case d8 nn hn =>
     simp only [List.length_append, fix_length, List.length_cons, List.length_nil] at ho1
     refine gx_ ?_
     refine WL.call rfl Tryz.call87 rfl rfl (by exact (buf_u64 (by omega) pk_ hd1 (by omega))) ?_
     rintro _ _ _ - ⟨rfl, rfl, d2, hd2, rfl⟩
     refine gx_ ?_
     exact WE.mid ⟨_, _, o1 + 8, d2, rfl, rfl, rfl, rfl, hd2, by omega⟩ sr_ sm_
    case sd zz hz0 hz1 =>
     refine gx_ ?_
     refine WL.call rfl Tryz.call106 rfl rfl (by exact (buf_sleb hz0 hz1 pk_ hd1 (by omega))) ?_
     rintro _ _ _ - ⟨rfl, rfl, d2, hd2, rfl⟩
     refine gx_ ?_
     exact WE.mid ⟨_, _, o1 + (slebL zz).length, d2, rfl, rfl, rfl, rfl, hd2, by omega⟩ sr_ sm_
    case ud nn hn =>
     refine gx_ ?_
     refine WL.call rfl Tryz.call69 rfl rfl (by exact (buf_uleb hn pk_ hd1 (by omega))) ?_
     rintro _ _ _ - ⟨rfl, rfl, d2, hd2, rfl⟩
     refine gx_ ?_
     exact WE.mid ⟨_, _, o1 + (ulebL nn).length, d2, rfl, rfl, rfl, rfl, hd2, by omega⟩ sr_ sm_
    case imp  =>
     rw [List.nil_append] at hd1
     simp only [List.length_nil] at ho1
     refine gx_ ?_
     exact WE.mid ⟨_, _, o1, d1, rfl, rfl, rfl, rfl, hd1, by omega⟩ sr_ sm_
    case flag nn hn =>
     simp only [List.length_append, fix_length, List.length_cons, List.length_nil] at ho1
     refine gx_ ?_
     refine WL.call rfl Tryz.call68 rfl rfl (by exact (buf_u8 (by omega) pk_ hd1 (by omega))) ?_
     rintro _ _ _ - ⟨rfl, rfl, d2, hd2, rfl⟩
     refine gx_ ?_
     exact WE.mid ⟨_, _, o1 + 1, d2, rfl, rfl, rfl, congrArg (fun z => Value.iface 4 (.bool z)) (show ((nn : Int) == 1) = (nn == 1) from by rw [Bool.eq_iff_iff]; simp only [beq_iff_eq]; omega), hd2, by omega⟩ sr_ sm_
    case pres  =>
     rw [List.nil_append] at hd1
     simp only [List.length_nil] at ho1
     refine gx_ ?_
     exact WE.mid ⟨_, _, o1, d1, rfl, rfl, rfl, rfl, hd1, by omega⟩ sr_ sm_
    case radr2 nn hv hn hn2 =>
     simp only [fix_length] at ho1
     refine gx_ ?_
     refine WL.invoke rfl (fun w => run_method_ptr Tryz.underlying274 (by kernel_rfl) _ _ w) Tryz.call181 rfl rfl (by exact (unit_version (a := c.vers) (by (repeat (first | assumption | apply Rd.cons)); (first | done | fail)))) ?_
     rintro _ _ _ - ⟨rfl, rfl, rfl⟩
     refine gx_ ?_
     refine WC.condF rfl (beq_eq_false_iff_ne.2 (by omega)) ?_
     refine gx_ ?_
     refine WC.condT rfl (beq_iff_eq.2 hv) ?_
     refine gx_ ?_
     refine WL.call rfl Tryz.call122 rfl rfl (by exact (buf_addr hcs hn pk_ (by (repeat (first | assumption | apply Rd.cons)); (first | done | fail)) hd1 (by omega))) ?_
     rintro _ _ _ - ⟨rfl, rfl, d2, hd2, rfl⟩
     refine gx_ ?_
     exact WE.mid ⟨_, _, o1 + c.size, d2, rfl, rfl, rfl, congrArg (fun z => Value.iface 90 (.int .u32 z)) (w_u32 (by omega) (by omega)), hd2, by omega⟩ sr_ sm_
    case radr nn hv2 hv0 hn =>
     simp only [fix_length] at ho1
     refine gx_ ?_
     refine WL.invoke rfl (fun w => run_method_ptr Tryz.underlying274 (by kernel_rfl) _ _ w) Tryz.call181 rfl rfl (by exact (unit_version (a := c.vers) (by (repeat (first | assumption | apply Rd.cons)); (first | done | fail)))) ?_
     rintro _ _ _ - ⟨rfl, rfl, rfl⟩
     refine gx_ ?_
     refine WC.condF rfl (beq_eq_false_iff_ne.2 hv0) ?_
     refine gx_ ?_
     refine WC.condF rfl (beq_eq_false_iff_ne.2 hv2) ?_
     refine gx_ ?_
     refine WL.invoke rfl (fun w => run_method_ptr Tryz.underlying274 (by kernel_rfl) _ _ w) Tryz.call180 rfl rfl (by exact (unit_dwarf64 (a := c.wide) (by (repeat (first | assumption | apply Rd.cons)); (first | done | fail)))) ?_
     rintro _ _ _ - ⟨rfl, rfl, rfl⟩
     refine gx_ ?_
     cases hw : c.wide
     ·rw [hw] at hd1 ho1
      simp only [offSz, cond_false] at hd1 ho1
      refine gx_ ?_
      refine WL.call rfl Tryz.call88 rfl rfl (by exact (buf_u32 (by omega) pk_ hd1 (by omega))) ?_
      rintro _ _ _ - ⟨rfl, rfl, d2, hd2, rfl⟩
      refine gx_ ?_
      exact WE.mid ⟨_, _, o1 + 4, d2, rfl, rfl, rfl, rfl, hd2, by omega⟩ sr_ sm_
     ·rw [hw] at hd1 ho1
      simp only [offSz, cond_true] at hd1 ho1
      refine gx_ ?_
      refine WL.call rfl Tryz.call87 rfl rfl (by exact (buf_u64 (by omega) pk_ hd1 (by omega))) ?_
      rintro _ _ _ - ⟨rfl, rfl, d2, hd2, rfl⟩
      refine gx_ ?_
      exact WE.mid ⟨_, _, o1 + 8, d2, rfl, rfl, rfl, congrArg (fun z => Value.iface 90 (.int .u32 z)) (w_u32 (by omega) (by omega)), hd2, by omega⟩ sr_ sm_
    case ref1 nn hn hb =>
     simp only [List.length_append, fix_length, List.length_cons, List.length_nil] at ho1
     refine gx_ ?_
     refine WL.call rfl Tryz.call68 rfl rfl (by exact (buf_u8 (by omega) pk_ hd1 (by omega))) ?_
     rintro _ _ _ - ⟨rfl, rfl, d2, hd2, rfl⟩
     refine gx_ ?_
     rw [show IntKind.u32.wrap (nn : Int) = (nn : Int) from w_u32 (by omega) (by omega)]
     rw [show IntKind.u32.wrap ((nn : Int) + (c.base : Int)) = ((nn + c.base : Nat) : Int) from by rw [w_u32 (by omega) (by omega)]; omega]
     exact WE.mid ⟨_, _, o1 + 1, d2, rfl, rfl, rfl, rfl, hd2, by omega⟩ sr_ sm_
    case ref2 nn hn hb =>
     simp only [List.length_append, fix_length, List.length_cons, List.length_nil] at ho1
     refine gx_ ?_
     refine WL.call rfl Tryz.call85 rfl rfl (by exact (buf_u16 (by omega) pk_ hd1 (by omega))) ?_
     rintro _ _ _ - ⟨rfl, rfl, d2, hd2, rfl⟩
     refine gx_ ?_
     rw [show IntKind.u32.wrap (nn : Int) = (nn : Int) from w_u32 (by omega) (by omega)]
     rw [show IntKind.u32.wrap ((nn : Int) + (c.base : Int)) = ((nn + c.base : Nat) : Int) from by rw [w_u32 (by omega) (by omega)]; omega]
     exact WE.mid ⟨_, _, o1 + 2, d2, rfl, rfl, rfl, rfl, hd2, by omega⟩ sr_ sm_
    case ref4 nn hb =>
     simp only [List.length_append, fix_length, List.length_cons, List.length_nil] at ho1
     refine gx_ ?_
     refine WL.call rfl Tryz.call88 rfl rfl (by exact (buf_u32 (by omega) pk_ hd1 (by omega))) ?_
     rintro _ _ _ - ⟨rfl, rfl, d2, hd2, rfl⟩
     refine gx_ ?_
     rw [show IntKind.u32.wrap ((nn : Int) + (c.base : Int)) = ((nn + c.base : Nat) : Int) from by rw [w_u32 (by omega) (by omega)]; omega]
     exact WE.mid ⟨_, _, o1 + 4, d2, rfl, rfl, rfl, rfl, hd2, by omega⟩ sr_ sm_
    case ref8 nn hb =>
     simp only [List.length_append, fix_length, List.length_cons, List.length_nil] at ho1
     refine gx_ ?_
     refine WL.call rfl Tryz.call87 rfl rfl (by exact (buf_u64 (by omega) pk_ hd1 (by omega))) ?_
     rintro _ _ _ - ⟨rfl, rfl, d2, hd2, rfl⟩
     refine gx_ ?_
     rw [show IntKind.u32.wrap (nn : Int) = (nn : Int) from w_u32 (by omega) (by omega)]
     rw [show IntKind.u32.wrap ((nn : Int) + (c.base : Int)) = ((nn + c.base : Nat) : Int) from by rw [w_u32 (by omega) (by omega)]; omega]
     exact WE.mid ⟨_, _, o1 + 8, d2, rfl, rfl, rfl, rfl, hd2, by omega⟩ sr_ sm_
    case refu nn hb =>
     refine gx_ ?_
     refine WL.call rfl Tryz.call69 rfl rfl (by exact (buf_uleb (by omega) pk_ hd1 (by omega))) ?_
     rintro _ _ _ - ⟨rfl, rfl, d2, hd2, rfl⟩
     refine gx_ ?_
     rw [show IntKind.u32.wrap (nn : Int) = (nn : Int) from w_u32 (by omega) (by omega)]
     rw [show IntKind.u32.wrap ((nn : Int) + (c.base : Int)) = ((nn + c.base : Nat) : Int) from by rw [w_u32 (by omega) (by omega)]; omega]
     exact WE.mid ⟨_, _, o1 + (ulebL nn).length, d2, rfl, rfl, rfl, rfl, hd2, by omega⟩ sr_ sm_
    case sig nn hn =>
     simp only [List.length_append, fix_length, List.length_cons, List.length_nil] at ho1
     refine gx_ ?_
     refine WL.call rfl Tryz.call87 rfl rfl (by exact (buf_u64 (by omega) pk_ hd1 (by omega))) ?_
     rintro _ _ _ - ⟨rfl, rfl, d2, hd2, rfl⟩
     refine gx_ ?_
     exact WE.mid ⟨_, _, o1 + 8, d2, rfl, rfl, rfl, rfl, hd2, by omega⟩ sr_ sm_
    case str tt hnz =>
     rw [List.append_assoc] at hd1
     simp only [List.length_append, List.length_cons, List.length_nil] at ho1
     refine gx_ ?_
     refine WL.call rfl Tryz.call119 rfl rfl (by exact (buf_string pk_ hd1 hnz (by omega))) ?_
     rintro _ _ _ - ⟨rfl, rfl, d2, hd2, rfl⟩
     refine gx_ ?_
     exact WE.mid ⟨_, _, o1 + tt.data.toList.length + 1, d2, rfl, rfl, rfl, congrArg (fun z => Value.iface 9 (.string z)) (show (⟨tt.data.toList.toArray⟩ : ByteArray) = tt from rfl), hd2, by omega⟩ sr_ sm_
    case strp kk tt lz hnz hkk hk =>
     have hk1 : kk < c.str.length := by
      have h1 := congrArg List.length hkk
      rw [List.length_drop, List.length_append, List.length_cons] at h1; omega
     have hkt : (c.str.take kk).length = kk := by rw [List.length_take, Nat.min_eq_left (by omega)]
     have hsd : Byt Γ ds (c.str.take kk ++ (tt.data.toList ++ 0 :: lz)) := by rw [← hkk, List.take_append_drop]; exact hbs
     have hszt : kk + tt.data.toList.length + 1 ≤ c.str.length := by
      have h1 := congrArg List.length hkk
      rw [List.length_drop, List.length_append, List.length_cons] at h1; omega
     have htt : ∀ q ∈ tt.data.toList, q ≠ 0 := hnz
     obtain ⟨az, cz, rfl, -, -⟩ := hbs
     simp only [fix_length] at ho1
     refine gx_ ?_
     refine WL.invoke rfl (fun w => run_method_ptr Tryz.underlying274 (by kernel_rfl) _ _ w) Tryz.call180 rfl rfl (by exact (unit_dwarf64 (a := c.wide) (by (repeat (first | assumption | apply Rd.cons)); (first | done | fail)))) ?_
     rintro _ _ _ - ⟨rfl, rfl, rfl⟩
     refine gx_ ?_
     cases hw : c.wide
     ·rw [hw] at hd1 ho1
      simp only [offSz, cond_false] at hd1 ho1
      refine gx_ ?_
      refine WL.call rfl Tryz.call88 rfl rfl (by exact (buf_u32 (by omega) pk_ hd1 (by omega))) ?_
      rintro _ _ _ - ⟨rfl, rfl, d2, hd2, rfl⟩
      refine gx_ ?_
      rw [show IntKind.u64.wrap (kk : Int) = (kk : Int) from w_u64 (by omega) (by omega)]
      rw [show IntKind.i64.wrap (kk : Int) = (kk : Int) from w_i64 (by omega) (by omega)]
      rw [show IntKind.u64.wrap (kk : Int) = (kk : Int) from w_u64 (by omega) (by omega)]
      refine WC.condF rfl (by simp) ?_
      refine gx_ ?_
      (refine WL.alloc tab_ok rfl rfl ?_; intro b29)
      refine gx_ ?_
      refine WC.draw 16 (.take 0 (.take 1 (.take 2 (.take 3 (.take 4 (.take 5 (.take 6 (.take 7 (.take 8 (.take 9 (.take 10 (.take 11 (.take 12 (.take 13 (.take 14 (.one 15 (.one 16 .done))))))))))))))))) ((b, _) :: (p, _) :: F) mixed xsb_ (by decide +kernel) ?_
      refine dx_ ?_
      refine WL.call rfl Tryz.call67 rfl rfl (by exact (makeBuf_ok (off := 0) (by (repeat (first | assumption | apply Rd.cons)); (first | done | fail)))) ?_
      rintro _ _ _ - ⟨rfl, rfl, rfl⟩
      refine dx_ ?_
      refine gx_ ?_
      rw [show IntKind.i64.wrap (kk : Int) = ((c.str.take kk).length : Int) from by rw [hkt]; exact w_i64 (by omega) (by omega)]
      refine WL.call rfl Tryz.call84 rfl rfl (by exact (buf_skip pk_ hsd (by omega))) ?_
      rintro _ _ _ - ⟨rfl, rfl, d3, hd3, rfl⟩
      refine gx_ ?_
      refine WL.call rfl Tryz.call119 rfl rfl (by exact (buf_string pk_ hd3 htt (by omega))) ?_
      rintro _ _ _ - ⟨rfl, rfl, d4, hd4, rfl⟩
      refine gx_ ?_
      exact WE.mid ⟨_, _, o1 + 4, d2, rfl, rfl, rfl, congrArg (fun z => Value.iface 9 (.string z)) (show (⟨tt.data.toList.toArray⟩ : ByteArray) = tt from rfl), hd2, by omega⟩ sr_ sm_
     ·rw [hw] at hd1 ho1
      simp only [offSz, cond_true] at hd1 ho1
      refine gx_ ?_
      refine WL.call rfl Tryz.call87 rfl rfl (by exact (buf_u64 (by omega) pk_ hd1 (by omega))) ?_
      rintro _ _ _ - ⟨rfl, rfl, d2, hd2, rfl⟩
      refine gx_ ?_
      rw [show IntKind.i64.wrap (kk : Int) = (kk : Int) from w_i64 (by omega) (by omega)]
      rw [show IntKind.u64.wrap (kk : Int) = (kk : Int) from w_u64 (by omega) (by omega)]
      refine WC.condF rfl (by simp) ?_
      refine gx_ ?_
      (refine WL.alloc tab_ok rfl rfl ?_; intro b29)
      refine gx_ ?_
      refine WC.draw 16 (.take 0 (.take 1 (.take 2 (.take 3 (.take 4 (.take 5 (.take 6 (.take 7 (.take 8 (.take 9 (.take 10 (.take 11 (.take 12 (.take 13 (.take 14 (.one 15 (.one 16 .done))))))))))))))))) ((b, _) :: (p, _) :: F) mixed xsb_ (by decide +kernel) ?_
      refine dx_ ?_
      refine WL.call rfl Tryz.call67 rfl rfl (by exact (makeBuf_ok (off := 0) (by (repeat (first | assumption | apply Rd.cons)); (first | done | fail)))) ?_
      rintro _ _ _ - ⟨rfl, rfl, rfl⟩
      refine dx_ ?_
      refine gx_ ?_
      rw [show IntKind.i64.wrap (kk : Int) = ((c.str.take kk).length : Int) from by rw [hkt]; exact w_i64 (by omega) (by omega)]
      refine WL.call rfl Tryz.call84 rfl rfl (by exact (buf_skip pk_ hsd (by omega))) ?_
      rintro _ _ _ - ⟨rfl, rfl, d3, hd3, rfl⟩
      refine gx_ ?_
      refine WL.call rfl Tryz.call119 rfl rfl (by exact (buf_string pk_ hd3 htt (by omega))) ?_
      rintro _ _ _ - ⟨rfl, rfl, d4, hd4, rfl⟩
      refine gx_ ?_
      exact WE.mid ⟨_, _, o1 + 8, d2, rfl, rfl, rfl, congrArg (fun z => Value.iface 9 (.string z)) (show (⟨tt.data.toList.toArray⟩ : ByteArray) = tt from rfl), hd2, by omega⟩ sr_ sm_
    case lstrp kk tt lz hnz hkk hk =>
     have hk1 : kk < c.lin.length := by
      have h1 := congrArg List.length hkk
      rw [List.length_drop, List.length_append, List.length_cons] at h1; omega
     have hkt : (c.lin.take kk).length = kk := by rw [List.length_take, Nat.min_eq_left (by omega)]
     have hsd : Byt Γ dl (c.lin.take kk ++ (tt.data.toList ++ 0 :: lz)) := by rw [← hkk, List.take_append_drop]; exact hbl
     have hszt : kk + tt.data.toList.length + 1 ≤ c.lin.length := by
      have h1 := congrArg List.length hkk
      rw [List.length_drop, List.length_append, List.length_cons] at h1; omega
     have htt : ∀ q ∈ tt.data.toList, q ≠ 0 := hnz
     obtain ⟨az, cz, rfl, -, -⟩ := hbl
     simp only [fix_length] at ho1
     refine gx_ ?_
     refine WL.invoke rfl (fun w => run_method_ptr Tryz.underlying274 (by kernel_rfl) _ _ w) Tryz.call180 rfl rfl (by exact (unit_dwarf64 (a := c.wide) (by (repeat (first | assumption | apply Rd.cons)); (first | done | fail)))) ?_
     rintro _ _ _ - ⟨rfl, rfl, rfl⟩
     refine gx_ ?_
     cases hw : c.wide
     ·rw [hw] at hd1 ho1
      simp only [offSz, cond_false] at hd1 ho1
      refine gx_ ?_
      refine WL.call rfl Tryz.call88 rfl rfl (by exact (buf_u32 (by omega) pk_ hd1 (by omega))) ?_
      rintro _ _ _ - ⟨rfl, rfl, d2, hd2, rfl⟩
      refine gx_ ?_
      rw [show IntKind.u64.wrap (kk : Int) = (kk : Int) from w_u64 (by omega) (by omega)]
      rw [show IntKind.i64.wrap (kk : Int) = (kk : Int) from w_i64 (by omega) (by omega)]
      rw [show IntKind.u64.wrap (kk : Int) = (kk : Int) from w_u64 (by omega) (by omega)]
      refine WC.condF rfl (by simp) ?_
      refine gx_ ?_
      (refine WL.alloc tab_ok rfl rfl ?_; intro b29)
      refine gx_ ?_
      refine WC.condF rfl (beq_eq_false_iff_ne.2 (by omega)) ?_
      refine gx_ ?_
      refine WC.draw 16 (.take 0 (.take 1 (.take 2 (.take 3 (.take 4 (.take 5 (.take 6 (.take 7 (.take 8 (.take 9 (.take 10 (.take 11 (.take 12 (.take 13 (.take 14 (.one 15 (.one 16 .done))))))))))))))))) ((b, _) :: (p, _) :: F) mixed xsb_ (by decide +kernel) ?_
      refine dx_ ?_
      refine WL.call rfl Tryz.call67 rfl rfl (by exact (makeBuf_ok (off := 0) (by (repeat (first | assumption | apply Rd.cons)); (first | done | fail)))) ?_
      rintro _ _ _ - ⟨rfl, rfl, rfl⟩
      refine dx_ ?_
      refine gx_ ?_
      rw [show IntKind.i64.wrap (kk : Int) = ((c.lin.take kk).length : Int) from by rw [hkt]; exact w_i64 (by omega) (by omega)]
      refine WL.call rfl Tryz.call84 rfl rfl (by exact (buf_skip pk_ hsd (by omega))) ?_
      rintro _ _ _ - ⟨rfl, rfl, d3, hd3, rfl⟩
      refine gx_ ?_
      refine WL.call rfl Tryz.call119 rfl rfl (by exact (buf_string pk_ hd3 htt (by omega))) ?_
      rintro _ _ _ - ⟨rfl, rfl, d4, hd4, rfl⟩
      refine gx_ ?_
      exact WE.mid ⟨_, _, o1 + 4, d2, rfl, rfl, rfl, congrArg (fun z => Value.iface 9 (.string z)) (show (⟨tt.data.toList.toArray⟩ : ByteArray) = tt from rfl), hd2, by omega⟩ sr_ sm_
     ·rw [hw] at hd1 ho1
      simp only [offSz, cond_true] at hd1 ho1
      refine gx_ ?_
      refine WL.call rfl Tryz.call87 rfl rfl (by exact (buf_u64 (by omega) pk_ hd1 (by omega))) ?_
      rintro _ _ _ - ⟨rfl, rfl, d2, hd2, rfl⟩
      refine gx_ ?_
      rw [show IntKind.i64.wrap (kk : Int) = (kk : Int) from w_i64 (by omega) (by omega)]
      rw [show IntKind.u64.wrap (kk : Int) = (kk : Int) from w_u64 (by omega) (by omega)]
      refine WC.condF rfl (by simp) ?_
      refine gx_ ?_
      (refine WL.alloc tab_ok rfl rfl ?_; intro b29)
      refine gx_ ?_
      refine WC.condF rfl (beq_eq_false_iff_ne.2 (by omega)) ?_
      refine gx_ ?_
      refine WC.draw 16 (.take 0 (.take 1 (.take 2 (.take 3 (.take 4 (.take 5 (.take 6 (.take 7 (.take 8 (.take 9 (.take 10 (.take 11 (.take 12 (.take 13 (.take 14 (.one 15 (.one 16 .done))))))))))))))))) ((b, _) :: (p, _) :: F) mixed xsb_ (by decide +kernel) ?_
      refine dx_ ?_
      refine WL.call rfl Tryz.call67 rfl rfl (by exact (makeBuf_ok (off := 0) (by (repeat (first | assumption | apply Rd.cons)); (first | done | fail)))) ?_
      rintro _ _ _ - ⟨rfl, rfl, rfl⟩
      refine dx_ ?_
      refine gx_ ?_
      rw [show IntKind.i64.wrap (kk : Int) = ((c.lin.take kk).length : Int) from by rw [hkt]; exact w_i64 (by omega) (by omega)]
      refine WL.call rfl Tryz.call84 rfl rfl (by exact (buf_skip pk_ hsd (by omega))) ?_
      rintro _ _ _ - ⟨rfl, rfl, d3, hd3, rfl⟩
      refine gx_ ?_
      refine WL.call rfl Tryz.call119 rfl rfl (by exact (buf_string pk_ hd3 htt (by omega))) ?_
      rintro _ _ _ - ⟨rfl, rfl, d4, hd4, rfl⟩
      refine gx_ ?_
      exact WE.mid ⟨_, _, o1 + 8, d2, rfl, rfl, rfl, congrArg (fun z => Value.iface 9 (.string z)) (show (⟨tt.data.toList.toArray⟩ : ByteArray) = tt from rfl), hd2, by omega⟩ sr_ sm_
    case sec nn hn =>
     simp only [fix_length] at ho1
     refine gx_ ?_
     refine WL.invoke rfl (fun w => run_method_ptr Tryz.underlying274 (by kernel_rfl) _ _ w) Tryz.call180 rfl rfl (by exact (unit_dwarf64 (a := c.wide) (by (repeat (first | assumption | apply Rd.cons)); (first | done | fail)))) ?_
     rintro _ _ _ - ⟨rfl, rfl, rfl⟩
     refine gx_ ?_
     cases hw : c.wide
     ·rw [hw] at hd1 ho1
      simp only [offSz, cond_false] at hd1 ho1
      refine gx_ ?_
      refine WL.call rfl Tryz.call88 rfl rfl (by exact (buf_u32 (by omega) pk_ hd1 (by omega))) ?_
      rintro _ _ _ - ⟨rfl, rfl, d2, hd2, rfl⟩
      refine gx_ ?_
      exact WE.mid ⟨_, _, o1 + 4, d2, rfl, rfl, rfl, congrArg (fun z => Value.iface 2 (.int .i64 z)) (w_i64 (by omega) (by omega)), hd2, by omega⟩ sr_ sm_
     ·rw [hw] at hd1 ho1
      simp only [offSz, cond_true] at hd1 ho1
      refine gx_ ?_
      refine WL.call rfl Tryz.call87 rfl rfl (by exact (buf_u64 (by omega) pk_ hd1 (by omega))) ?_
      rintro _ _ _ - ⟨rfl, rfl, d2, hd2, rfl⟩
      refine gx_ ?_
      exact WE.mid ⟨_, _, o1 + 8, d2, rfl, rfl, rfl, congrArg (fun z => Value.iface 2 (.int .i64 z)) (w_i64 (by omega) (by omega)), hd2, by omega⟩ sr_ sm_
   ·rintro R' Γ' H' ⟨t, w, o2, d2, rfl, rfl, rfl, hfv, hd2, ho2⟩
    refine gx_ ?_
    refine WL.stPre (k := 1) tab_ok rfl rfl rfl pk_ spl_ (by omega) rfl rfl ?_
    refine gx_ ?_
    have hwi : IntKind.i64.wrap ((i : Int) + 1) = (i : Int) + 1 := w_i64 (by omega) (by omega)
    refine WE.again ⟨i + 1, o2, d2, cs ++ [.int .u32 (xa : Int), .iface t w, .int .i64 (formClass xf xa c.vers)], rfl, rfl, rfl, rfl, hlt, hd2, ho2, ?_⟩ (by omega) ⟨rfl, rfl, rfl, rfl, rfl, rfl, rfl, congrArg (fun z => some (Value.int .i64 z)) hwi, trivial⟩ ?_
    ·rw [List.take_add_one, hx]
     exact FCs.snoc ⟨t, w, rfl, hfv⟩ hcs'
    ·rw [List.append_assoc]
     exact sm_
abbrev isA (a : Nat) : Itm → Bool := fun x => x.attr == a
theorem attrField_ok {Γ : Env} {H : List Blk} {pe off tag : Nat} {ch : Bool} {its : List Itm} {vers : Int} (h : EntR Γ pe off tag ch its vers) (a : Nat) (hn : its.length < 2147483648) :
  Spc Tryz.prog 93 #[.pointer (some ⟨pe, 0, none⟩), .int .u32 (a : Int)] Γ H (fun v Γ' H' => Γ = Γ' ∧ H = H' ∧
   match its.find? (isA a) with
   | none => v = .pointer none
   | some x => ∃ pf o t w, v = .pointer (some ⟨pf, o, none⟩) ∧ Γ.cell pf (o + 1) = some (.iface t w) ∧ Γ.cell pf (o + 2) = some (.int .i64 (formClass x.form x.attr vers)) ∧ FVal Γ x.fv (.iface t w)) := by
 obtain ⟨h0, h1, h2, pf, cs, T, h3, h4, h5⟩ := h
 have h3' : Γ.cell pe (0 + 3) = _ := h3
 refine Spc.body2 Tryz.func93 rfl Tryz.ntmps93 rfl ?_
 refine gx_ ?_
 refine WC.loopE (fun m R' Γ' H' => ∃ i, R' = [(0, .pointer (some ⟨pe, 0, none⟩)), (1, .int .u32 (a : Int)), (10, .slice (some ⟨pf, 0, none⟩) its.length its.length), (11, .int .i64 (its.length : Int)), (12, .int .i64 ((i : Nat) : Int))] ∧ Γ = Γ' ∧ H' = H ∧ m = its.length - i ∧ i ≤ its.length ∧ its.find? (isA a) = (its.drop i).find? (isA a))
  ⟨0, rfl, rfl, rfl, rfl, Nat.zero_le _, rfl⟩ sr_ (fun _ h => h) ?_
 rintro m R' Γ' H' ⟨i, rfl, rfl, rfl, rfl, hi, hfd⟩
 rcases Nat.lt_or_ge i its.length with hlt | hge
 case inr =>
  have ei : i = its.length := by omega
  subst ei
  refine gx_ ?_
  refine WC.condF rfl (decide_eq_false (by omega)) ?_
  refine gx_ ?_
  rw [hfd, List.drop_length]
  exact end_1 rfl rfl (Env.le.rfl' _) ⟨rfl, rfl, rfl⟩
 case inl =>
  obtain ⟨x, hx⟩ : ∃ x, its[i]? = some x := ⟨_, List.getElem?_eq_getElem hlt⟩
  obtain ⟨p, c, q, g1, g2, t, w, rfl, g4⟩ := h5.get hx
  have hdr : its.drop i = x :: its.drop (i + 1) := by
   rw [List.drop_eq_getElem_cons hlt]
   rw [List.getElem?_eq_getElem hlt] at hx; injection hx with hx; rw [hx]
  have hcell : ∀ k v, [Value.int .u32 (x.attr : Int), .iface t w, .int .i64 (formClass x.form x.attr vers)][k]? = some v → Γ.cell pf (0 + ((i : Nat) : Int).toNat * 3 + k) = some v := fun k v hk => by
   have hlt := (List.getElem?_eq_some_iff.1 hk).1
   simp only [Env.cell, h4, g1]
   rw [Int.toNat_natCast, ← g2]
   rw [List.getElem?_toArray, List.getElem?_append_right (by omega), show 0 + p.length + k - p.length = k by omega, List.getElem?_append_left hlt]; exact hk
  refine gx_ ?_
  refine WC.condT rfl tr_ ?_
  refine gx_ ?_
  refine WL.ldRA (l := [.int .u32 (x.attr : Int), .iface t w, .int .i64 (formClass x.form x.attr vers)]) tab_ok rfl rfl rfl (fun k v hk => .inl (hcell k v hk)) rfl rfl ?_
  refine gx_ ?_
  (refine WL.alloc tab_ok rfl rfl ?_; intro b6)
  refine gx_ ?_
  by_cases hxa : x.attr = a
  ·refine WC.condT rfl (beq_iff_eq.2 (by omega)) ?_
   refine gx_ ?_
   refine WE.drop (b := b6) pk_ ?_
   refine end_1 rfl rfl (Env.le.rfl' _) ⟨rfl, rfl, ?_⟩
   rw [hfd, hdr, List.find?_cons, show isA a x = true from beq_iff_eq.2 hxa]
   exact ⟨pf, _, t, w, rfl, hcell 1 _ rfl, hcell 2 _ rfl, g4⟩
  ·refine WC.condF rfl (beq_eq_false_iff_ne.2 (by omega)) ?_
   refine gx_ ?_
   have hwi : IntKind.i64.wrap ((i : Int) + 1) = (i : Int) + 1 := w_i64 (by omega) (by omega)
   refine WE.again ⟨i + 1, rfl, rfl, rfl, rfl, hlt, ?_⟩ (by omega) ⟨rfl, rfl, rfl, rfl, congrArg (fun z => some (Value.int .i64 z)) hwi, trivial⟩ sm_
   rw [hfd, hdr, List.find?_cons, show isA a x = false from beq_eq_false_iff_ne.2 hxa]
theorem val_ok {Γ : Env} {H : List Blk} {pe off tag : Nat} {ch : Bool} {its : List Itm} {vers : Int} (h : EntR Γ pe off tag ch its vers) (a : Nat) (hn : its.length < 2147483648) :
  Spc Tryz.prog 65 #[.pointer (some ⟨pe, 0, none⟩), .int .u32 (a : Int)] Γ H (fun v Γ' H' => Γ = Γ' ∧ H = H' ∧
   match its.find? (isA a) with
   | none => v = .nilIface
   | some x => ∃ t w, v = .iface t w ∧ FVal Γ x.fv (.iface t w)) := by
 refine Spc.body2 Tryz.func65 rfl Tryz.ntmps65 rfl ?_
 refine gx_ ?_
 refine WL.call rfl Tryz.call93 rfl rfl (by exact (attrField_ok h a hn)) ?_
 rintro v _ _ - ⟨rfl, rfl, hv⟩
 cases hf : its.find? (isA a) with
 | none =>
  rw [hf] at hv
  simp only at hv
  subst hv
  refine gx_ ?_
  exact end_1 rfl rfl (Env.le.rfl' _) ⟨rfl, rfl, rfl⟩
 | some x =>
  rw [hf] at hv
  obtain ⟨pf, o, t, w, rfl, h1, h2, h3⟩ := hv
  refine gx_ ?_
  exact end_1 rfl rfl (Env.le.rfl' _) ⟨rfl, rfl, t, w, rfl, h3⟩
abbrev uqc (base off1 : Nat) (d : Value) (r : Nat) (u5 : Option Addr) (size vers : Nat) (wide : Bool) (q : List Value) : List Value :=
 .int .u32 (base : Int) :: .int .u32 (off1 : Int) :: d :: .map (some r) :: .pointer u5 :: .int .i64 (size : Int) :: .int .i64 (vers : Int) :: .bool wide :: .int .u8 (if 5 ≤ vers then 1 else 0) :: q
def UQ (Γ : Env) (base : Nat) (u : PU) (cs : List Value) : Prop :=
 ∃ d r es c u5, cs = uqc base (base + lsz u.wide + hsz u) d r u5 u.size u.vers u.wide [] ∧ Byt Γ d u.body ∧ Γ.imm r = some (.map (es : List MapEntry).toArray c) ∧ AbEnts Γ u.vers u.abs es
def UQs (Γ : Env) (big : Bool) : Nat → List PU → List Value → Prop
 | _, [], cs => cs = []
 | b, u :: us, cs => ∃ c1 c2, cs = c1 ++ c2 ∧ UQ Γ b u c1 ∧ UQs Γ big (b + (puB big u).length) us c2
theorem UC.uq {Γ : Env} {big : Bool} {b : Nat} {u : PU} {cs : List Value} (h : UC Γ big b u cs) : UQ Γ b u cs := by
 obtain ⟨d, r, es, c, h1, h2, h3, h4⟩ := h
 exact ⟨d, r, es, c, none, h1, h2, h3, h4⟩
theorem UCs.uq {Γ : Env} {big : Bool} : ∀ {us : List PU} {b : Nat} {cs : List Value}, UCs Γ big b us cs → UQs Γ big b us cs
 | [], _, _, h => h
 | _ :: _, _, _, ⟨c1, c2, h1, h2, h3⟩ => ⟨c1, c2, h1, h2.uq, UCs.uq h3⟩
theorem UQ.mono {Γ Γ' : Env} (hle : Γ.le Γ') {b : Nat} {u : PU} {cs : List Value} (h : UQ Γ b u cs) : UQ Γ' b u cs := by
 obtain ⟨d, r, es, c, u5, h1, h2, h3, h4⟩ := h
 exact ⟨d, r, es, c, u5, h1, h2.mono hle, hle.imm _ _ h3, h4.mono hle⟩
theorem UQs.mono {Γ Γ' : Env} (hle : Γ.le Γ') {big : Bool} : ∀ {us : List PU} {b : Nat} {cs : List Value}, UQs Γ big b us cs → UQs Γ' big b us cs
 | [], _, _, h => h
 | _ :: _, _, _, ⟨c1, c2, h1, h2, h3⟩ => ⟨c1, c2, h1, h2.mono hle, UQs.mono hle h3⟩
theorem UQ.length {Γ : Env} {b : Nat} {u : PU} {cs : List Value} (h : UQ Γ b u cs) : cs.length = 9 := by
 obtain ⟨d, r, es, c, u5, rfl, -⟩ := h; rfl
theorem UQs.get {Γ : Env} {big : Bool} : ∀ {us : List PU} {b : Nat} {cs : List Value} {i : Nat} {u : PU}, UQs Γ big b us cs → us[i]? = some u → ∃ p c q, cs = p ++ (c ++ q) ∧ p.length = i * 9 ∧ UQ Γ (b + (pusB big (us.take i)).length) u c ∧
  ∀ {Γ' : Env} {c' : List Value}, Γ.le Γ' → UQ Γ' (b + (pusB big (us.take i)).length) u c' → UQs Γ' big b us (p ++ (c' ++ q))
 | [], _, _, _, _, _, e => by simp at e
 | x :: us, b, cs, 0, u, ⟨c1, c2, h1, h2, h3⟩, e => by
  injection e with e; subst e
  exact ⟨[], c1, c2, h1, rfl, h2, fun {Γ' c'} hle h => ⟨c', c2, rfl, h, h3.mono hle⟩⟩
 | x :: us, b, cs, i + 1, u, ⟨c1, c2, h1, h2, h3⟩, e => by
  obtain ⟨p, c, q, g1, g2, g3, g4⟩ := UQs.get h3 (i := i) (by simpa using e)
  have hl : b + (pusB big ((x :: us).take (i + 1))).length = b + (puB big x).length + (pusB big (us.take i)).length := by
   rw [List.take_succ_cons, pusB, List.length_append, ← Nat.add_assoc]
  refine ⟨c1 ++ p, c, q, by rw [h1, g1, List.append_assoc], by rw [List.length_append, h2.length, g2]; omega, by rw [hl]; exact g3, fun hle h => ?_⟩
  rw [hl] at h
  exact ⟨c1, p ++ (_ ++ q), by rw [List.append_assoc], h2.mono hle, g4 hle h⟩
structure Die (c : Ctx) (abs : List Abb) (a : Abb) (its : List Itm) : Prop where
 mem : a ∈ abs
 ok : OkA a
 fs : a.fs = its.map Itm.abF
 low : ∀ x ∈ its, x.attr < 114
 okI : ∀ x ∈ its, OkItm c x
 few : its.length < 2147483648
structure Secs (Γ : Env) (F : List Blk) (pd : Nat) (c : Ctx) : Prop where
 str : ∃ v, Rd Γ F pd 7 v ∧ Byt Γ v c.str
 lin : ∃ v, Rd Γ F pd 9 v ∧ Byt Γ v c.lin
 ord : Rd Γ F pd 14 (.bool c.big)
 sl : c.str.length < 2147483648
 ll : c.lin.length < 2147483648
theorem Secs.mono {Γ Γ' : Env} (hle : Γ.le Γ') {F : List Blk} {pd : Nat} {c : Ctx} (h : Secs Γ F pd c) : Secs Γ' F pd c := by
 obtain ⟨⟨v, h1, h2⟩, ⟨w, h3, h4⟩, h5, h6, h7⟩ := h
 exact ⟨⟨v, h1.mono hle, h2.mono hle⟩, ⟨w, h3.mono hle, h4.mono hle⟩, h5.mono hle, h6, h7⟩
theorem Secs.cons {Γ : Env} {F : List Blk} {x : Blk} {pd : Nat} {c : Ctx} (h : Secs Γ F pd c) : Secs Γ (x :: F) pd c := by
 obtain ⟨⟨v, h1, h2⟩, ⟨w, h3, h4⟩, h5, h6, h7⟩ := h
 exact ⟨⟨v, h1.cons, h2⟩, ⟨w, h3.cons, h4⟩, h5.cons, h6, h7⟩
theorem find_none {its : List Itm} (h : ∀ x ∈ its, x.attr < 114) {a : Nat} (ha : 114 ≤ a) : its.find? (isA a) = none := by
 rw [List.find?_eq_none]
 intro x hx
 have := h x hx
 simp only [isA, beq_iff_eq]; omega
theorem collectD_ok {Γ : Env} {H : List Blk} {pu ou pd r : Nat} {p5 : Addr} {c : Ctx} {a : Abb} {its : List Itm} {abs : List Abb} {es : List MapEntry} {cm off1 : Nat} {dU : Value} {l : List UInt8}
  (hG : Glob Γ) (hS : Secs Γ H pd c) (hcs : c.size = 4 ∨ c.size = 8)
  (h0 : Rd Γ H pu (ou + 0) (.int .u32 (c.base : Int))) (h1 : Rd Γ H pu (ou + 1) (.int .u32 (off1 : Int))) (h2 : Rd Γ H pu (ou + 2) dU) (h3 : Rd Γ H pu (ou + 3) (.map (some r))) (h4 : Rd Γ H pu (ou + 4) (.pointer (some p5)))
  (h5 : Rd Γ H pu (ou + 5) (.int .i64 (c.size : Int))) (h6 : Rd Γ H pu (ou + 6) (.int .i64 c.vers)) (h7 : Rd Γ H pu (ou + 7) (.bool c.wide))
  (hdU : Byt Γ dU (ulebL a.code ++ (itexts its ++ l))) (hr : Γ.imm r = some (.map es.toArray cm)) (hes : AbEnts Γ c.vers abs es) (hdis : abs.Pairwise (fun a b => a.code ≠ b.code))
  (hD : Die c abs a its) (hsz : off1 + (ulebL a.code).length + (itexts its).length + l.length ≤ 2147483648) :
  Spc Tryz.prog 108 #[.pointer (some ⟨pd, 0, none⟩), .pointer (some ⟨pu, ou, none⟩)] Γ H (fun v Γ' H' => v = .nilIface ∧ H' = H) := by
 obtain ⟨⟨vs, hs1, hs2⟩, ⟨vl, hl1, hl2⟩, ho, hsl, hll⟩ := hS
 have hdU' := hdU
 obtain ⟨aU, cU, rfl, -, -⟩ := hdU'
 refine Spc.body2 Tryz.func108 rfl Tryz.ntmps108 rfl ?_
 refine gx_ ?_
 refine WC.cutM (fun R' Γ' H' => ∃ b5, R' = [(0, .pointer (some ⟨pd, 0, none⟩)), (1, .pointer (some ⟨pu, ou, none⟩)), (5, .pointer (some ⟨b5, 0, none⟩))] ∧ Γ = Γ' ∧ H' = (b5, cel (bufc (.pointer (some ⟨pd, 0, none⟩)) (.bool c.big) (ufmt pu ou) (.string sInfo) off1 (.slice aU (ulebL a.code ++ (itexts its ++ l)).length cU) .nilIface []) 223) :: H) ?_ ?_
 ·refine WC.draw 13 (.take 0 (.take 1 (.take 2 (.take 3 (.take 4 (.take 5 (.take 6 (.take 7 (.take 8 (.take 9 (.take 10 (.two 11 12 (.one 12 (.one 13 .done)) (.one 11 (.one 13 .done)))))))))))))) (H) mixed xsb_ (by decide +kernel) ?_
  refine dx_ ?_
  refine WD.two rfl rfl ?_ ?_
  ·refine dx_ ?_
   refine WL.call rfl Tryz.call67 rfl rfl (by exact (makeBuf_ok ho)) ?_
   rintro _ _ _ - ⟨rfl, rfl, rfl⟩
   refine dx_ ?_
   (refine WL.alloc tab_ok rfl rfl ?_; intro b5)
   refine dx_ ?_
   refine gx_ ?_
   exact WE.mid ⟨b5, rfl, rfl, rfl⟩ sr_ sm_
  ·refine dx_ ?_
   (refine WL.alloc tab_ok rfl rfl ?_; intro b5)
   refine dx_ ?_
   refine WL.call rfl Tryz.call67 rfl rfl (by exact (makeBuf_ok (Rd.cons ho))) ?_
   rintro _ _ _ - ⟨rfl, rfl, rfl⟩
   refine dx_ ?_
   refine gx_ ?_
   exact WE.mid ⟨b5, rfl, rfl, rfl⟩ sr_ sm_
 rintro R' Γ' H' ⟨b5, rfl, rfl, rfl⟩
 refine gx_ ?_
 refine WL.call rfl Tryz.call113 rfl rfl (by exact (entry_ok hG pk_ hdU h0 h3 h5 h6 h7 hr hes hdis hD.mem hD.ok hD.fs hD.okI hcs hs1 hs2 hl1 hl2 ho hsl hll hsz hD.few)) ?_
 rintro _ Γ1 _ hle ⟨pe, d', rfl, hE, hd', rfl⟩
 refine gx_ ?_
 refine WL.call rfl Tryz.call65 rfl rfl (by exact (val_ok hE 115 hD.few)) ?_
 rintro v _ _ - ⟨rfl, rfl, hv⟩
 rw [find_none hD.low (by decide)] at hv
 simp only at hv
 subst hv
 refine gx_ ?_
 refine WL.call rfl Tryz.call65 rfl rfl (by exact (val_ok hE 114 hD.few)) ?_
 rintro v _ _ - ⟨rfl, rfl, hv⟩
 rw [find_none hD.low (by decide)] at hv
 simp only at hv
 subst hv
 refine gx_ ?_
 refine WL.call rfl Tryz.call65 rfl rfl (by exact (val_ok hE 116 hD.few)) ?_
 rintro v _ _ - ⟨rfl, rfl, hv⟩
 rw [find_none hD.low (by decide)] at hv
 simp only at hv
 subst hv
 refine gx_ ?_
 refine WL.call rfl Tryz.call65 rfl rfl (by exact (val_ok hE 140 hD.few)) ?_
 rintro v _ _ - ⟨rfl, rfl, hv⟩
 rw [find_none hD.low (by decide)] at hv
 simp only at hv
 subst hv
 refine gx_ ?_
 refine WE.drop (b := b5) pk_ ?_
 exact end_1 rfl rfl hle ⟨rfl, rfl⟩
theorem Rd.pre {Γ : Env} {H F : List Blk} {b o k : Nat} {tt : TypeId} {fz : Nat × Nat} {pre l : List Value} {v : Value} (hp : Pick H b (celF (pre ++ l) tt fz) F) (hv : lget l k = some v) (ho : o = pre.length + k) : Rd Γ H b o v :=
 .inr ⟨_, _, _, _, hp, by
  have h := (lget_pre pre l ho).trans hv
  rw [lget_eq] at h; simpa using h⟩
structure Top (Γ : Env) (c : Ctx) (vers : Nat) (abs : List Abb) (off1 : Nat) (d : Value) (r : Nat) : Prop where
 vn : c.vers = (vers : Int)
 size : c.size = 4 ∨ c.size = 8
 dist : abs.Pairwise (fun a b => a.code ≠ b.code)
 map : ∃ es cm, Γ.imm r = some (.map (es : List MapEntry).toArray cm) ∧ AbEnts Γ vers abs es
 ent : ∃ a its l, Byt Γ d (ulebL a.code ++ (itexts its ++ l)) ∧ Die c abs a its ∧ off1 + (ulebL a.code).length + (itexts its).length + l.length ≤ 2147483648
theorem Top.mono {Γ Γ' : Env} (hle : Γ.le Γ') {c : Ctx} {vers : Nat} {abs : List Abb} {off1 : Nat} {d : Value} {r : Nat} (h : Top Γ c vers abs off1 d r) : Top Γ' c vers abs off1 d r := by
 obtain ⟨h0, h1, h2, ⟨es, cm, h3, h4⟩, a, its, l, h5, h6, h7⟩ := h
 exact ⟨h0, h1, h2, ⟨es, cm, hle.imm _ _ h3, h4.mono hle⟩, a, its, l, h5.mono hle, h6, h7⟩
theorem collectR_ok {Γ : Env} {H F : List Blk} {pr pu ou pd r : Nat} {u5 : Option Addr} {c : Ctx} {vers off1 : Nat} {abs : List Abb} {d : Value} {pre q : List Value} {T : TypeId}
  (hG : Glob Γ) (hp : Pick H pu (cel (pre ++ uqc c.base off1 d r u5 c.size vers c.wide q) T) F) (hou : ou = pre.length) (hS : Secs Γ F pd c) (hrd : Rd Γ F pr 7 (.pointer (some ⟨pd, 0, none⟩)))
  (hT : Top Γ c vers abs off1 d r) :
  Spc Tryz.prog 96 #[.pointer (some ⟨pr, 0, none⟩), .pointer (some ⟨pu, ou, none⟩)] Γ H (fun v Γ' H' => v = .tuple #[] ∧ ∃ u5, H' = (pu, cel (pre ++ uqc c.base off1 d r u5 c.size vers c.wide q) T) :: F) := by
 refine Spc.perm ?_ hp.perm
 obtain ⟨hv, hcs, hdis, ⟨es, cm, hr, hes⟩, a, its, l, hb, hD, hsz⟩ := hT
 have hb' := hb
 obtain ⟨aU, cU, rfl, -, -⟩ := hb'
 refine Spc.body2 Tryz.func96 rfl Tryz.ntmps96 rfl ?_
 refine gx_ ?_
 refine WL.ldPre (k := 6) tab_ok rfl rfl rfl pk_ rfl (by omega) rfl ?_
 refine gx_ ?_
 by_cases h5 : vers < 5
 ·rw [show decide ((vers : Int) < 5) = true from decide_eq_true (by omega)]
  refine gx_ ?_
  exact end_0r rfl (Env.le.rfl' _) ⟨rfl, u5, rfl⟩
 ·rw [show decide ((vers : Int) < 5) = false from decide_eq_false (by omega)]
  refine gx_ ?_
  refine WL.ldPre (k := 4) tab_ok rfl rfl rfl pk_ rfl (by omega) rfl ?_
  cases u5 with
  | some x =>
   refine gx_ ?_
   exact end_0r rfl (Env.le.rfl' _) ⟨rfl, some x, rfl⟩
  | none =>
   refine gx_ ?_
   (refine WL.alloc tab_ok rfl rfl ?_; intro p5)
   refine gx_ ?_
   refine WL.stPre (k := 4) tab_ok rfl rfl rfl pk_ spl_ (by omega) rfl rfl ?_
   refine gx_ ?_
   refine WL.call rfl Tryz.call108 rfl rfl (by exact (collectD_ok (p5 := ⟨p5, 0, none⟩) hG hS.cons.cons hcs (Rd.pre (k := 0) pk_ rfl (by omega)) (Rd.pre (k := 1) pk_ rfl (by omega)) (Rd.pre (k := 2) pk_ rfl (by omega)) (Rd.pre (k := 3) pk_ rfl (by omega)) (Rd.pre (k := 4) pk_ rfl (by omega)) (Rd.pre (k := 5) pk_ rfl (by omega)) (by rw [hv]; exact Rd.pre (k := 6) pk_ rfl (by omega)) (Rd.pre (k := 7) pk_ rfl (by omega)) hb hr (by rw [hv]; exact hes) hdis hD hsz)) ?_
   rintro _ Γ1 _ hle ⟨rfl, rfl⟩
   refine gx_ ?_
   refine WE.drop (b := p5) pk_ ?_
   exact end_0 rfl hle ⟨rfl, some ⟨p5, 0, none⟩, rfl⟩
abbrev rdp (pd : Nat) (err : Value) (un : Int) (lu lc : Bool) (ls cu : Value) : List Value := [.pointer (some ⟨pd, 0, none⟩), err, .int .i64 un, .bool lu, .bool lc, ls, cu]
theorem seek0_ok {Γ : Env} {H F F1 : List Blk} {pr pu pd r n : Nat} {u5 : Option Addr} {c : Ctx} {vers off1 : Nat} {abs : List Abb} {d : Value} {q : List Value} {x0 x1 x2 x3 x4 x5 x6 err ls cu : Value} {un : Int} {lu lc : Bool}
  (hG : Glob Γ) (hp : Pick H pr (cel (x0 :: x1 :: x2 :: x3 :: x4 :: x5 :: x6 :: rdp pd err un lu lc ls cu) 258) F1) (hq : Pick F1 pu (cel (uqc c.base off1 d r u5 c.size vers c.wide q) 279) F) (hS : Secs Γ F pd c)
  (h17 : Rd Γ F pd 17 (.slice (some ⟨pu, 0, none⟩) n n)) (hn : 0 < n) (hT : Top Γ c vers abs off1 d r) :
  Spc Tryz.prog 71 #[.pointer (some ⟨pr, 0, none⟩), .int .u32 0] Γ H (fun v Γ' H' => v = .tuple #[] ∧ ∃ u5, H' = (pr, cel (bufc (.pointer (some ⟨pd, 0, none⟩)) (.bool c.big) (ufmt pu 0) (.string sInfo) off1 d .nilIface (rdp pd .nilIface 0 lu false ls (.pointer none))) 258) :: (pu, cel (uqc c.base off1 d r u5 c.size vers c.wide q) 279) :: F) := by
 refine Spc.perm ?_ (hp.perm.trans (List.Perm.cons _ hq.perm))
 obtain ⟨a, its, l, hb, -, -⟩ := hT.ent
 obtain ⟨aU, cU, rfl, -, -⟩ := hb
 refine Spc.body2 Tryz.func71 rfl Tryz.ntmps71 rfl ?_
 refine gx_ ?_
 refine WC.condF rfl (by first | rfl | exact decide_eq_false (by omega) | (simp; (first | done | fail)) | (simp; omega)) ?_
 refine gx_ ?_
 refine WC.draw 18 (.take 0 (.take 1 (.take 2 (.take 3 (.take 4 (.take 5 (.take 6 (.take 7 (.take 8 (.take 9 (.take 10 (.take 11 (.take 12 (.take 13 (.take 14 (.one 15 (.one 16 (.take 17 (.one 18 .done))))))))))))))))))) ((pr, _) :: (pu, _) :: F) mixed xsb_ (by decide +kernel) ?_
 refine dx_ ?_
 rw [show 0 + Int.toNat 0 * 9 = 0 from rfl]
 have ho := hS.ord
 refine WL.call rfl Tryz.call67 rfl rfl (by exact (makeBuf_ok (by (repeat (first | assumption | apply Rd.cons)); (first | done | fail)))) ?_
 rintro _ _ _ - ⟨rfl, rfl, rfl⟩
 refine dx_ ?_
 refine gx_ ?_
 refine WL.call rfl Tryz.call96 rfl rfl (by exact (collectR_ok (pre := []) hG pk_ rfl hS.cons (.inr ⟨_, _, _, _, Pick.here, rfl⟩) hT)) ?_
 rintro _ Γ1 _ hle ⟨rfl, u5', rfl⟩
 rw [List.nil_append]
 refine gx_ ?_
 exact end_0r rfl hle ⟨rfl, u5', rfl⟩
theorem reader_ok {Γ : Env} {H F : List Blk} {pu pd r n : Nat} {u5 : Option Addr} {c : Ctx} {vers off1 : Nat} {abs : List Abb} {d : Value} {q : List Value}
  (hG : Glob Γ) (hq : Pick H pu (cel (uqc c.base off1 d r u5 c.size vers c.wide q) 279) F) (hS : Secs Γ F pd c)
  (h17 : Rd Γ F pd 17 (.slice (some ⟨pu, 0, none⟩) n n)) (hn : 0 < n) (hT : Top Γ c vers abs off1 d r) :
  Spc Tryz.prog 43 #[.pointer (some ⟨pd, 0, none⟩)] Γ H (fun v Γ' H' => ∃ pr u5, v = .pointer (some ⟨pr, 0, none⟩) ∧ H' = (pr, cel (bufc (.pointer (some ⟨pd, 0, none⟩)) (.bool c.big) (ufmt pu 0) (.string sInfo) off1 d .nilIface (rdp pd .nilIface 0 false false (.int .u32 0) (.pointer none))) 258) :: (pu, cel (uqc c.base off1 d r u5 c.size vers c.wide q) 279) :: F) := by
 refine Spc.body1 Tryz.func43 rfl Tryz.ntmps43 rfl ?_
 refine gx_ ?_
 (refine WL.box rfl spi_ rfl ?_; intro pr)
 refine gx_ ?_
 refine WL.call rfl Tryz.call71 rfl rfl (by exact (seek0_ok hG Pick.here hq hS h17 hn hT)) ?_
 rintro _ Γ1 _ hle ⟨rfl, u5', rfl⟩
 refine gx_ ?_
 exact end_1 rfl rfl hle ⟨pr, u5', rfl, rfl⟩
theorem copied_ok {Γ : Env} {H : List Blk} {v : Value} {l : List UInt8} (hv : Byt Γ v l) (hl : l.length < 2147483648) :
  Spc Tryz.prog 39 #[v] Γ H (fun v Γ' H' => Byt Γ' v l ∧ H' = H) := by
 refine Spc.body1 Tryz.func39 rfl Tryz.ntmps39 rfl ?_
 refine gx_ ?_
 refine WL.append (v := .slice none 0 0) tab_ok rfl rfl rfl rfl rfl rfl rfl rfl Ow.nil (Hs := []) (F := H) (Tk.here (Hs := []) (F := H)) (hv.src tab_ok rfl) (by omega) (by omega) (fun v' Hs' ho => ?_)
 rw [List.nil_append, Nat.zero_add] at ho
 refine WL.keep ho Tk.here (fun Γ' hle him => ?_)
 refine gx_ ?_
 exact end_1 rfl rfl hle ⟨him.byt, rfl⟩
abbrev dcs (dA dI dL dR dS ad ls so rl : Value) (rc r2 r3 : Nat) (b1 b2 : Bool) (un : Value) : List Value :=
 [dA, .slice none 0 0, .slice none 0 0, dI, dL, .slice none 0 0, dR, dS, ad, ls, so, rl, .map (some rc), .bool b1, .bool b2, .map (some r2), .map (some r3), un]
abbrev nls : Value := .slice none 0 0
abbrev sLineStr : ByteArray := ⟨#[46, 100, 101, 98, 117, 103, 95, 108, 105, 110, 101, 95, 115, 116, 114]⟩
abbrev sRngLists : ByteArray := ⟨#[46, 100, 101, 98, 117, 103, 95, 114, 110, 103, 108, 105, 115, 116, 115]⟩
theorem addLine_ok {Γ : Env} {H F : List Blk} {pd : Nat} {dA dI dL dR dS ad ls so rl un : Value} {rc r2 r3 : Nat} {b1 b2 : Bool} {v : Value} {l : List UInt8} (hp : Pick H pd (cel (dcs dA dI dL dR dS ad ls so rl rc r2 r3 b1 b2 un) 133) F) (hv : Byt Γ v l) :
  Spc Tryz.prog 40 #[.pointer (some ⟨pd, 0, none⟩), .string sLineStr, v] Γ H (fun w Γ' H' => w = .nilIface ∧ Γ = Γ' ∧ H' = (pd, cel (dcs dA dI dL dR dS ad v so rl rc r2 r3 b1 b2 un) 133) :: F) := by
 obtain ⟨av, cv, rfl, -, -⟩ := hv
 refine Spc.perm ?_ hp.perm
 refine Spc.body3 Tryz.func40 rfl Tryz.ntmps40 rfl ?_
 refine gx_ ?_
 refine WC.condF rfl (by decide +kernel) ?_
 refine gx_ ?_
 refine WC.condT rfl (by decide +kernel) ?_
 refine gx_ ?_
 exact end_1 rfl rfl (Env.le.rfl' _) ⟨rfl, rfl, rfl⟩
theorem addRng_ok {Γ : Env} {H F : List Blk} {pd : Nat} {dA dI dL dR dS ad ls so rl un : Value} {rc r2 r3 : Nat} {b1 b2 : Bool} {v : Value} {l : List UInt8} (hp : Pick H pd (cel (dcs dA dI dL dR dS ad ls so rl rc r2 r3 b1 b2 un) 133) F) (hv : Byt Γ v l) :
  Spc Tryz.prog 40 #[.pointer (some ⟨pd, 0, none⟩), .string sRngLists, v] Γ H (fun w Γ' H' => w = .nilIface ∧ Γ = Γ' ∧ H' = (pd, cel (dcs dA dI dL dR dS ad ls so v rc r2 r3 b1 b2 un) 133) :: F) := by
 obtain ⟨av, cv, rfl, -, -⟩ := hv
 refine Spc.perm ?_ hp.perm
 refine Spc.body3 Tryz.func40 rfl Tryz.ntmps40 rfl ?_
 refine gx_ ?_
 refine WC.condF rfl (by decide +kernel) ?_
 refine gx_ ?_
 refine WC.condF rfl (by decide +kernel) ?_
 refine gx_ ?_
 refine WC.condF rfl (by decide +kernel) ?_
 refine gx_ ?_
 refine WC.condT rfl (by decide +kernel) ?_
 refine gx_ ?_
 exact end_1 rfl rfl (Env.le.rfl' _) ⟨rfl, rfl, rfl⟩
end Go.Proofs.YtbgkbgoonjkghaaGreatDoor
namespace Go.Sl
open Go
section
variable {P : Program} {Q : Post} {n : Nat} {D : List Deferred} {R : Regs} {Γ : Env} {H : List Blk}
theorem WC.loop3 {c : Code} (h : WC P c (Exit.then (Rnd P c (Exit.then (Rnd P c (Exit.then NoMore Q)) Q)) Q) n D R Γ H) : WC P (.loop c) Q n D R Γ H :=
 ⟨fun a w hs => wp_loop_rounds 3 (h.go a w hs)⟩
end
end Go.Sl
namespace Go.Proofs.YtbgkbgoonjkghaaGreatDoor
open Go Go.Sl
set_option maxRecDepth 10000
set_option maxHeartbeats 40000000
structure AddR (Γ : Env) (v : Value) (lin : List UInt8) (rl : Option (List UInt8)) : Prop where
 ex : ∃ b cap vl, Γ.cell b 0 = some (.string sLineStr) ∧ Γ.cell b 1 = some vl ∧ Byt Γ vl lin ∧
  match rl with
  | none => v = .slice (some ⟨b, 0, none⟩) 1 cap ∧ 1 ≤ cap
  | some r => v = .slice (some ⟨b, 0, none⟩) 2 cap ∧ 2 ≤ cap ∧ ∃ vr, Γ.cell b 2 = some (.string sRngLists) ∧ Γ.cell b 3 = some vr ∧ Byt Γ vr r
theorem AddR.mono {Γ Γ' : Env} (hle : Γ.le Γ') {v : Value} {lin : List UInt8} {rl : Option (List UInt8)} (h : AddR Γ v lin rl) : AddR Γ' v lin rl := by
 obtain ⟨b, cap, vl, h1, h2, h3, h4⟩ := h.ex
 refine ⟨b, cap, vl, hle.cell h1, hle.cell h2, h3.mono hle, ?_⟩
 cases rl with
 | none => exact h4
 | some r =>
  obtain ⟨h5, h6, vr, h7, h8, h9⟩ := h4
  exact ⟨h5, h6, vr, hle.cell h7, hle.cell h8, h9.mono hle⟩
structure SecR (Γ : Env) (v : Value) (ab info ln rg sr lin : List UInt8) (rl : Option (List UInt8)) : Prop where
 ex : ∃ vA vI vL vR vS vD, v = .agg #[vA, vI, vL, vR, vS, vD, nls] ∧ Byt Γ vA ab ∧ Byt Γ vI info ∧ Byt Γ vL ln ∧ Byt Γ vR rg ∧ Byt Γ vS sr ∧ AddR Γ vD lin rl
def RlR (Γ : Env) (v : Value) : Option (List UInt8) → Prop
 | none => v = nls
 | some r => Byt Γ v r
abbrev uctx (big : Bool) (sr lin : List UInt8) (base : Nat) (u : PU) : Ctx := ⟨u.vers, u.wide, u.size, base, big, sr, lin⟩
structure PTop (c : Ctx) (u : PU) : Prop where
 size : u.size = 4 ∨ u.size = 8
 ent : ∃ a its l, u.body = ulebL a.code ++ (itexts its ++ l) ∧ Die c u.abs a its
end Go.Proofs.YtbgkbgoonjkghaaGreatDoor
namespace Go.Sl
open Go
section
variable {P : Program} {ops : Array Oper} {Q : Post} {n : Nat} {D : List Deferred} {R : Regs} {Γ : Env} {H : List Blk} {rest : List Oper}
variable {d : Nat} {ty : TypeId} {pos : String} {aft : Array Edge}
theorem WL.noU {op : Op} {j dj : Nat} {want : Bool} {oj : Oper} (hj : ops[j]? = some oj) (hdj : oj.dst = some dj) (hr : rget R dj = some undef)
  (hd : Nat.blt d n = true) (k : WL P ops Q n D rest ((d, undef) :: R) Γ H) : WL P ops Q n D (⟨some d, op, ty, pos, aft, some (j, want)⟩ :: rest) R Γ H := by
 refine ⟨fun a w hs => ?_⟩
 have hy : ¬ Region.wanted ⟨some d, op, ty, pos, aft, some (j, want)⟩ (yielded ops a.tmps) = true := by
  have := hs.regs dj _ hr
  simp [Region.wanted, yielded, hj, hdj, this, undef]
 unfold wpList
 rw [if_neg hy]
 exact k.go _ _ (hs.put hd undef hs.st)
variable {L i : Nat} {p : Plan} {Γs : Env} {Hs : List Blk}
theorem WT.pureG {T : Tab} (hT : TabOk P T) {op : Op} {v : Value} {j : Nat} {want : Bool} (hnp : NP Q) (hd : Nat.blt d n = true) (hg : gval ops R j = some want) (hv : evalP T R op = some v)
  (k : WD P ops Q L Γs Hs n D p ((d, v) :: R) Γ H) : WT P ops Q L Γs Hs n D i ⟨some d, op, ty, pos, aft, some (j, want)⟩ p R Γ H := ⟨fun hi => by
 obtain ⟨oj, dj, h1, h2, h3⟩ := gval_spec hg
 exact WD.pureG hT hi hnp hd h1 h2 h3 hv k⟩
theorem WT.noG {op : Op} {j : Nat} {want b : Bool} (hnp : NP Q) (hd : Nat.blt d n = true) (hg : gval ops R j = some b) (hb : (b == want) = false)
  (k : WD P ops Q L Γs Hs n D p ((d, undef) :: R) Γ H) : WT P ops Q L Γs Hs n D i ⟨some d, op, ty, pos, aft, some (j, want)⟩ p R Γ H := ⟨fun hi => by
 obtain ⟨oj, dj, h1, h2, h3⟩ := gval_spec hg
 exact WD.no hi hnp hd h1 h2 h3 hb k⟩
end
end Go.Sl
namespace Go.Proofs.YtbgkbgoonjkghaaGreatDoor
open Go Go.Sl
set_option maxRecDepth 10000
set_option maxHeartbeats 4000000
theorem gz_ {p q : Prop} (k : q) (h : Wrp q → p := by intro k; (repeat (first | (refine WC.g ?_; first | refine WC.seqRun tab_ok rfl ?_ | refine WC.condF rfl rfl ?_ | refine WC.condT rfl rfl ?_ | refine WC.seq ?_ | refine WC.regRun tab_ok rfl ?_ | refine WC.region ?_ | refine WC.ret ?_ | refine WC.exit ?_ | refine WC.skip ?_ | refine WC.block ?_) | (refine WL.g ?_; first | refine WL.nil ?_ | refine WL.run tab_ok rfl rfl ?_ | (refine WL.gLoad ?_; first | refine WL.ld tab_ok rfl rfl rfl pk_ rfl rfl ?_ | refine WL.ldA tab_ok rfl rfl rfl pk_ cut_ rfl ?_ | refine WL.ldI tab_ok rfl rfl rfl (by assumption) rfl ?_ | refine WL.ldR tab_ok rfl rfl rfl (by (repeat (first | assumption | apply Rd.cons)); (first | done | fail)) rfl ?_ | refine WL.ldAI tab_ok rfl rfl rfl (by assumption) rfl rfl ?_) | (refine WL.gStore ?_; refine WL.st tab_ok rfl rfl rfl pk_ spl_ rfl rfl ?_) | (refine WL.gIdx ?_; refine WL.idx tab_ok rfl rfl rfl rfl (by omega) (by omega) rfl ?_) | (refine WL.gBuild ?_; refine WL.build tab_ok rfl spi_ rfl ?_) | (refine WL.gSlice ?_; first | refine WL.slLo tab_ok rfl rfl rfl rfl (by omega) (by omega) (by omega) rfl ?_ | refine WL.slHi tab_ok rfl rfl rfl rfl (by omega) (by omega) rfl ?_ | refine WL.slLH tab_ok rfl rfl rfl rfl rfl (by omega) (by omega) (by omega) rfl ?_) | (refine WL.gBin ?_; first | refine WL.pure tab_ok (evalP_shl rfl rfl (by omega)) rfl ?_ | refine WL.pure tab_ok (evalP_shr rfl rfl (by omega)) rfl ?_) | refine WL.pure tab_ok rfl rfl ?_ | (refine WL.gGuard ?_; first | refine WL.yes rfl rfl rfl ?_ | refine WL.no rfl rfl rfl rfl rfl ?_ | refine WL.noU rfl rfl rfl rfl ?_)) | (refine WE.g ?_; first | refine WE.then_ ?_ | refine WE.thenX rfl ?_ | refine WE.block_n ?_ | refine WE.block_x ?_ | refine WE.block_y rfl ?_ | refine WE.block_r ?_ | apply WE.drawnL | (apply WE.drawn; exact (by first | exact Env.le.rfl' _ | assumption); exact xsb_)))); exact k.out) : p := h ⟨k⟩
theorem dz_ {p q : Prop} (k : q) (h : Wrp q → p := by intro k; (repeat (first | (refine WD.g ?_; first | refine WD.one rfl ?_ | refine WD.done ?_ | (refine WD.gTake ?_; first | refine WD.run tab_ok np_ rfl rfl ?_ | (refine WD.at_ rfl ?_; (first | (refine WT.gLoad ?_; first | refine WT.load np_ rfl rfl (by first | exact Ld.own tab_ok rfl rfl pk_ rfl | exact Ld.ownA tab_ok rfl rfl pk_ cut_ | exact Ld.imm tab_ok rfl rfl (by assumption) | exact Ld.rd tab_ok rfl rfl (by (repeat (first | assumption | apply Rd.cons)); (first | done | fail)) | exact Ld.immA tab_ok rfl rfl (by assumption) rfl) ?_ | refine WT.loadG np_ rfl rfl rfl (by first | exact Ld.own tab_ok rfl rfl pk_ rfl | exact Ld.ownA tab_ok rfl rfl pk_ cut_ | exact Ld.imm tab_ok rfl rfl (by assumption) | exact Ld.rd tab_ok rfl rfl (by (repeat (first | assumption | apply Rd.cons)); (first | done | fail)) | exact Ld.immA tab_ok rfl rfl (by assumption) rfl) ?_) | (refine WT.gIdx ?_; first | refine WT.idx tab_ok np_ rfl rfl rfl rfl rfl (by omega) (by omega) ?_ | refine WT.idxG tab_ok np_ rfl rfl rfl rfl rfl rfl (by omega) (by omega) ?_) | (refine WT.gSlice ?_; refine WT.slLo tab_ok np_ rfl rfl rfl rfl rfl (by omega) (by omega) (by omega) ?_) | (refine WT.gBuild ?_; refine WT.build tab_ok np_ rfl rfl spi_ ?_) | refine WT.pure tab_ok np_ rfl rfl ?_ | refine WT.pureG tab_ok np_ rfl rfl rfl ?_ | refine WT.noG np_ rfl rfl rfl ?_)))) | (refine WL.g ?_; first | refine WL.nil ?_ | refine WL.run tab_ok rfl rfl ?_ | (refine WL.gLoad ?_; first | refine WL.ld tab_ok rfl rfl rfl pk_ rfl rfl ?_ | refine WL.ldA tab_ok rfl rfl rfl pk_ cut_ rfl ?_ | refine WL.ldI tab_ok rfl rfl rfl (by assumption) rfl ?_ | refine WL.ldR tab_ok rfl rfl rfl (by (repeat (first | assumption | apply Rd.cons)); (first | done | fail)) rfl ?_ | refine WL.ldAI tab_ok rfl rfl rfl (by assumption) rfl rfl ?_) | (refine WL.gStore ?_; refine WL.st tab_ok rfl rfl rfl pk_ spl_ rfl rfl ?_) | (refine WL.gIdx ?_; refine WL.idx tab_ok rfl rfl rfl rfl (by omega) (by omega) rfl ?_) | (refine WL.gBuild ?_; refine WL.build tab_ok rfl spi_ rfl ?_) | (refine WL.gSlice ?_; first | refine WL.slLo tab_ok rfl rfl rfl rfl (by omega) (by omega) (by omega) rfl ?_ | refine WL.slHi tab_ok rfl rfl rfl rfl (by omega) (by omega) rfl ?_ | refine WL.slLH tab_ok rfl rfl rfl rfl rfl (by omega) (by omega) (by omega) rfl ?_) | (refine WL.gBin ?_; first | refine WL.pure tab_ok (evalP_shl rfl rfl (by omega)) rfl ?_ | refine WL.pure tab_ok (evalP_shr rfl rfl (by omega)) rfl ?_) | refine WL.pure tab_ok rfl rfl ?_ | (refine WL.gGuard ?_; first | refine WL.yes rfl rfl rfl ?_ | refine WL.no rfl rfl rfl rfl rfl ?_ | refine WL.noU rfl rfl rfl rfl ?_)) | (refine WE.g ?_; first | refine WE.then_ ?_ | refine WE.thenX rfl ?_ | refine WE.block_n ?_ | refine WE.block_x ?_ | refine WE.block_y rfl ?_ | refine WE.block_r ?_ | apply WE.drawnL | (apply WE.drawn; exact (by first | exact Env.le.rfl' _ | assumption); exact xsb_)))); exact k.out) : p := h ⟨k⟩
def LisC {α : Type} (P : α → List Value → Prop) : List α → List Value → Prop
 | [], cs => cs = []
 | x :: xs, cs => ∃ c1 c2, cs = c1 ++ c2 ∧ P x c1 ∧ LisC P xs c2
theorem LisC.imp {α : Type} {P P' : α → List Value → Prop} (h : ∀ x c, P x c → P' x c) : ∀ {xs : List α} {cs : List Value}, LisC P xs cs → LisC P' xs cs
 | [], _, h => h
 | _ :: _, _, ⟨c1, c2, h1, h2, h3⟩ => ⟨c1, c2, h1, h _ _ h2, LisC.imp h h3⟩
theorem LisC.length {α : Type} {P : α → List Value → Prop} {w : Nat} (hw : ∀ x c, P x c → c.length = w) : ∀ {xs : List α} {cs : List Value}, LisC P xs cs → cs.length = xs.length * w
 | [], _, h => by cases h; simp
 | _ :: xs, _, ⟨c1, c2, h1, h2, h3⟩ => by rw [h1, List.length_append, hw _ _ h2, LisC.length hw h3, List.length_cons, Nat.succ_mul]; omega
theorem LisC.append {α : Type} {P : α → List Value → Prop} : ∀ {xs ys : List α} {cs ds : List Value}, LisC P xs cs → LisC P ys ds → LisC P (xs ++ ys) (cs ++ ds)
 | [], _, _, _, h, k => by cases h; exact k
 | _ :: _, _, _, _, ⟨c1, c2, h1, h2, h3⟩, k => ⟨c1, _, by rw [h1, List.append_assoc], h2, LisC.append h3 k⟩
theorem LisC.one {α : Type} {P : α → List Value → Prop} {x : α} {c : List Value} (h : P x c) : LisC P [x] c := ⟨c, [], by simp, h, rfl⟩
theorem LisC.get {α : Type} {P : α → List Value → Prop} {w : Nat} (hw : ∀ x c, P x c → c.length = w) : ∀ {xs : List α} {cs : List Value} {i : Nat} {x : α}, LisC P xs cs → xs[i]? = some x → ∃ p c q, cs = p ++ (c ++ q) ∧ p.length = i * w ∧ P x c
 | [], _, _, _, _, e => by simp at e
 | y :: xs, cs, 0, x, ⟨c1, c2, h1, h2, h3⟩, e => by
  injection e with e; subst e
  exact ⟨[], c1, c2, h1, by simp, h2⟩
 | y :: xs, cs, i + 1, x, ⟨c1, c2, h1, h2, h3⟩, e => by
  obtain ⟨p, c, q, g1, g2, g3⟩ := LisC.get hw h3 (i := i) (by simpa using e)
  exact ⟨c1 ++ p, c, q, by rw [h1, g1, List.append_assoc], by rw [List.length_append, hw _ _ h2, g2, Nat.succ_mul]; omega, g3⟩
def Arr {α : Type} (Γ : Env) (P : α → List Value → Prop) (v : Value) (xs : List α) : Prop := ∃ a cap cells, v = .slice a xs.length cap ∧ xs.length ≤ cap ∧ ImA Γ a cells ∧ LisC P xs cells
theorem elemA {α : Type} {Γ : Env} {P : α → List Value → Prop} {w : Nat} {a : Option Addr} {cells : List Value} {xs : List α} {i : Nat} {x : α} (hA : ImA Γ a cells) (hL : LisC P xs cells) (hw : ∀ x c, P x c → c.length = w) (h0 : 0 < w) (hx : xs[i]? = some x) :
  ∃ b o c, a = some ⟨b, o, none⟩ ∧ P x c ∧ cellsAt (Γ.cell b) (o + ((i : Nat) : Int).toNat * w) c := by
 obtain ⟨p, c, q, h1, h2, h3⟩ := hL.get hw hx
 have hcw := hw _ _ h3
 have hget : ∀ k v, c[k]? = some v → cells[i * w + k]? = some v := fun k v hk => by
  rw [h1, List.getElem?_append_right (by omega), ← h2, Nat.add_sub_cancel_left, List.getElem?_append_left (List.getElem?_eq_some_iff.1 hk).1]; exact hk
 obtain ⟨v0, hv0⟩ : ∃ v, c[0]? = some v := ⟨_, List.getElem?_eq_getElem (by omega)⟩
 obtain ⟨b, o, g1, g2⟩ := hA _ _ (hget 0 _ hv0)
 refine ⟨b, o, c, g1, h3, cellsAt_mk fun k v hk => ?_⟩
 obtain ⟨b', o', g3, g4⟩ := hA _ _ (hget k v hk)
 rw [g1] at g3; injection g3 with g3; injection g3 with g3 g5
 subst g3 g5
 rw [Int.toNat_natCast, Nat.add_assoc]; exact g4
def PieC (x : Pie) (c : List Value) : Prop := c = [.int .i64 x.kind, .int .u64 (x.a : Int), .int .u64 (x.b : Int)]
def SpnC (Γ : Env) (x : Spn) (c : List Value) : Prop := ∃ v, c = [.int .u64 (x.low : Int), .int .u64 (x.high : Int), .bool x.len, .bool x.lst, v] ∧ Arr Γ PieC v x.pies
def AttC (Γ : Env) (x : Att) (c : List Value) : Prop := ∃ v, c = [.int .i64 x.attr, .int .i64 x.form, .bool x.ind, .int .u64 (x.n : Int), .string x.s, v] ∧ Byt Γ v x.b ∧ x.n < 18446744073709551616
def NodC (Γ : Env) (x : Nod) (c : List Value) : Prop := ∃ v, c = [.int .i64 x.tag, .bool x.ch, .bool x.sib, v] ∧ Arr Γ (AttC Γ) v x.atts
def UniC (Γ : Env) (x : Uni) (c : List Value) : Prop := ∃ v, c = [.int .i64 x.vers, .bool x.wide, .int .i64 x.size, v] ∧ Arr Γ (NodC Γ) v x.nods
theorem PieC.len {x : Pie} {c : List Value} (h : PieC x c) : c.length = 3 := by cases h; rfl
theorem SpnC.len {Γ : Env} {x : Spn} {c : List Value} (h : SpnC Γ x c) : c.length = 5 := by obtain ⟨v, rfl, -⟩ := h; rfl
theorem AttC.len {Γ : Env} {x : Att} {c : List Value} (h : AttC Γ x c) : c.length = 6 := by obtain ⟨v, rfl, -⟩ := h; rfl
theorem NodC.len {Γ : Env} {x : Nod} {c : List Value} (h : NodC Γ x c) : c.length = 4 := by obtain ⟨v, rfl, -⟩ := h; rfl
theorem UniC.len {Γ : Env} {x : Uni} {c : List Value} (h : UniC Γ x c) : c.length = 4 := by obtain ⟨v, rfl, -⟩ := h; rfl
theorem Arr.mono {α : Type} {Γ Γ' : Env} {P P' : α → List Value → Prop} (hle : Γ.le Γ') (hP : ∀ x c, P x c → P' x c) {v : Value} {xs : List α} (h : Arr Γ P v xs) : Arr Γ' P' v xs := by
 obtain ⟨a, cap, cells, h1, h2, h3, h4⟩ := h
 exact ⟨a, cap, cells, h1, h2, h3.mono hle, h4.imp hP⟩
theorem SpnC.mono {Γ Γ' : Env} (hle : Γ.le Γ') {x : Spn} {c : List Value} (h : SpnC Γ x c) : SpnC Γ' x c := by
 obtain ⟨v, h1, h2⟩ := h; exact ⟨v, h1, h2.mono hle fun _ _ h => h⟩
theorem AttC.mono {Γ Γ' : Env} (hle : Γ.le Γ') {x : Att} {c : List Value} (h : AttC Γ x c) : AttC Γ' x c := by
 obtain ⟨v, h1, h2, h3⟩ := h; exact ⟨v, h1, h2.mono hle, h3⟩
theorem NodC.mono {Γ Γ' : Env} (hle : Γ.le Γ') {x : Nod} {c : List Value} (h : NodC Γ x c) : NodC Γ' x c := by
 obtain ⟨v, h1, h2⟩ := h; exact ⟨v, h1, h2.mono hle fun _ _ h => h.mono hle⟩
theorem UniC.mono {Γ Γ' : Env} (hle : Γ.le Γ') {x : Uni} {c : List Value} (h : UniC Γ x c) : UniC Γ' x c := by
 obtain ⟨v, h1, h2⟩ := h; exact ⟨v, h1, h2.mono hle fun _ _ h => h.mono hle⟩
set_option maxHeartbeats 40000000
def FitA (a : Att) : Prop := a.s.size ≤ 2147483647 ∧ a.b.length ≤ 2147483647
def FitN (x : Nod) : Prop := x.atts.length ≤ 2147483647 ∧ ∀ a ∈ x.atts, FitA a
def FitU (u : Uni) : Prop := u.nods.length ≤ 2147483647 ∧ ∀ x ∈ u.nods, FitN x
def FitS (x : Spn) : Prop := x.pies.length ≤ 2147483647
theorem mem_drop_of {α : Type} {xs : List α} {i : Nat} {Q : α → Prop} {x : α} (hx : xs[i]? = some x) (h : ∀ y ∈ xs.take i, Q y) (hq : Q x) : ∀ y ∈ xs.take (i + 1), Q y := fun y hy => by
 rw [List.take_add_one, hx] at hy
 rcases List.mem_append.1 hy with hy | hy
 ·exact h y hy
 ·rw [Option.toList, List.mem_singleton] at hy; subst hy; exact hq
theorem class_ok {Γ : Env} {H : List Blk} (v a f : Int) :
  Spc Tryz.prog 101 #[.int .i64 v, .int .i64 a, .int .i64 f] Γ H (fun w Γ' H' => w = .tuple #[.int .i64 (clsOf v a f).1, .bool (clsOf v a f).2] ∧ Γ = Γ' ∧ H = H') := by
 refine Spc.body3 Tryz.func101 rfl Tryz.ntmps101 rfl ?_
 refine gz_ ?_
 by_cases n1 : f = 1
 ·subst n1
  refine gz_ ?_
  cases h1 : (a == 17) with
  | true =>
   refine gz_ ?_
   exact end_2 rfl rfl rfl (Env.le.rfl' _) ⟨by simp [clsOf, h1], rfl, rfl⟩
  | false =>
   refine gz_ ?_
   exact end_2 rfl rfl rfl (Env.le.rfl' _) ⟨by simp [clsOf, h1], rfl, rfl⟩
 refine WC.condF rfl (beq_eq_false_iff_ne.2 n1) ?_
 refine gz_ ?_
 by_cases n3 : f = 3
 ·subst n3
  refine gz_ ?_
  exact end_2 rfl rfl rfl (Env.le.rfl' _) ⟨by simp [clsOf], rfl, rfl⟩
 refine WC.condF rfl (beq_eq_false_iff_ne.2 n3) ?_
 refine gz_ ?_
 by_cases n4 : f = 4
 ·subst n4
  refine gz_ ?_
  exact end_2 rfl rfl rfl (Env.le.rfl' _) ⟨by simp [clsOf], rfl, rfl⟩
 refine WC.condF rfl (beq_eq_false_iff_ne.2 n4) ?_
 refine gz_ ?_
 by_cases n9 : f = 9
 ·subst n9
  refine gz_ ?_
  exact end_2 rfl rfl rfl (Env.le.rfl' _) ⟨by simp [clsOf], rfl, rfl⟩
 refine WC.condF rfl (beq_eq_false_iff_ne.2 n9) ?_
 refine gz_ ?_
 by_cases n10 : f = 10
 ·subst n10
  refine gz_ ?_
  exact end_2 rfl rfl rfl (Env.le.rfl' _) ⟨by simp [clsOf], rfl, rfl⟩
 refine WC.condF rfl (beq_eq_false_iff_ne.2 n10) ?_
 refine gz_ ?_
 by_cases n5 : f = 5
 ·subst n5
  refine gz_ ?_
  cases h1 : (a == 11) with
  | true =>
   refine gz_ ?_
   exact end_2 rfl rfl rfl (Env.le.rfl' _) ⟨by simp [clsOf, h1], rfl, rfl⟩
  | false =>
   refine gz_ ?_
   cases h2 : (a == 28) with
   | true =>
    refine gz_ ?_
    exact end_2 rfl rfl rfl (Env.le.rfl' _) ⟨by simp [clsOf, h1, h2], rfl, rfl⟩
   | false =>
    refine gz_ ?_
    exact end_2 rfl rfl rfl (Env.le.rfl' _) ⟨by simp [clsOf, h1, h2], rfl, rfl⟩
 refine WC.condF rfl (beq_eq_false_iff_ne.2 n5) ?_
 refine gz_ ?_
 by_cases n11 : f = 11
 ·subst n11
  refine gz_ ?_
  cases h1 : (a == 11) with
  | true =>
   refine gz_ ?_
   exact end_2 rfl rfl rfl (Env.le.rfl' _) ⟨by simp [clsOf, h1], rfl, rfl⟩
  | false =>
   refine gz_ ?_
   cases h2 : (a == 28) with
   | true =>
    refine gz_ ?_
    exact end_2 rfl rfl rfl (Env.le.rfl' _) ⟨by simp [clsOf, h1, h2], rfl, rfl⟩
   | false =>
    refine gz_ ?_
    exact end_2 rfl rfl rfl (Env.le.rfl' _) ⟨by simp [clsOf, h1, h2], rfl, rfl⟩
 refine WC.condF rfl (beq_eq_false_iff_ne.2 n11) ?_
 refine gz_ ?_
 by_cases n13 : f = 13
 ·subst n13
  refine gz_ ?_
  cases h1 : (a == 11) with
  | true =>
   refine gz_ ?_
   exact end_2 rfl rfl rfl (Env.le.rfl' _) ⟨by simp [clsOf, h1], rfl, rfl⟩
  | false =>
   refine gz_ ?_
   cases h2 : (a == 28) with
   | true =>
    refine gz_ ?_
    exact end_2 rfl rfl rfl (Env.le.rfl' _) ⟨by simp [clsOf, h1, h2], rfl, rfl⟩
   | false =>
    refine gz_ ?_
    exact end_2 rfl rfl rfl (Env.le.rfl' _) ⟨by simp [clsOf, h1, h2], rfl, rfl⟩
 refine WC.condF rfl (beq_eq_false_iff_ne.2 n13) ?_
 refine gz_ ?_
 by_cases n15 : f = 15
 ·subst n15
  refine gz_ ?_
  cases h1 : (a == 11) with
  | true =>
   refine gz_ ?_
   exact end_2 rfl rfl rfl (Env.le.rfl' _) ⟨by simp [clsOf, h1], rfl, rfl⟩
  | false =>
   refine gz_ ?_
   cases h2 : (a == 28) with
   | true =>
    refine gz_ ?_
    exact end_2 rfl rfl rfl (Env.le.rfl' _) ⟨by simp [clsOf, h1, h2], rfl, rfl⟩
   | false =>
    refine gz_ ?_
    exact end_2 rfl rfl rfl (Env.le.rfl' _) ⟨by simp [clsOf, h1, h2], rfl, rfl⟩
 refine WC.condF rfl (beq_eq_false_iff_ne.2 n15) ?_
 refine gz_ ?_
 by_cases n6 : f = 6
 ·subst n6
  refine gz_ ?_
  cases h1 : (a == 11) with
  | true =>
   refine gz_ ?_
   exact end_2 rfl rfl rfl (Env.le.rfl' _) ⟨by simp [clsOf, h1], rfl, rfl⟩
  | false =>
   refine gz_ ?_
   exact end_2 rfl rfl rfl (Env.le.rfl' _) ⟨by simp [clsOf, h1], rfl, rfl⟩
 refine WC.condF rfl (beq_eq_false_iff_ne.2 n6) ?_
 refine gz_ ?_
 by_cases n7 : f = 7
 ·subst n7
  refine gz_ ?_
  cases h1 : (a == 11) with
  | true =>
   refine gz_ ?_
   exact end_2 rfl rfl rfl (Env.le.rfl' _) ⟨by simp [clsOf, h1], rfl, rfl⟩
  | false =>
   refine gz_ ?_
   exact end_2 rfl rfl rfl (Env.le.rfl' _) ⟨by simp [clsOf, h1], rfl, rfl⟩
 refine WC.condF rfl (beq_eq_false_iff_ne.2 n7) ?_
 refine gz_ ?_
 by_cases n33 : f = 33
 ·subst n33
  refine gz_ ?_
  cases hv : decide ((4 : Int) < v) with
  | false =>
   refine gz_ ?_
   exact end_2 rfl rfl rfl (Env.le.rfl' _) ⟨by simp [clsOf, hv], rfl, rfl⟩
  | true =>
   refine gz_ ?_
   cases h2 : (a == 11) with
   | true =>
    refine gz_ ?_
    exact end_2 rfl rfl rfl (Env.le.rfl' _) ⟨by simp [clsOf, hv, h2], rfl, rfl⟩
   | false =>
    refine gz_ ?_
    cases h3 : (a == 28) with
    | true =>
     refine gz_ ?_
     exact end_2 rfl rfl rfl (Env.le.rfl' _) ⟨by simp [clsOf, hv, h2, h3], rfl, rfl⟩
    | false =>
     refine gz_ ?_
     exact end_2 rfl rfl rfl (Env.le.rfl' _) ⟨by simp [clsOf, hv, h2, h3], rfl, rfl⟩
 refine WC.condF rfl (beq_eq_false_iff_ne.2 n33) ?_
 refine gz_ ?_
 by_cases n12 : f = 12
 ·subst n12
  refine gz_ ?_
  cases h1 : (a == 63) with
  | true =>
   refine gz_ ?_
   exact end_2 rfl rfl rfl (Env.le.rfl' _) ⟨by simp [clsOf, h1], rfl, rfl⟩
  | false =>
   refine gz_ ?_
   exact end_2 rfl rfl rfl (Env.le.rfl' _) ⟨by simp [clsOf, h1], rfl, rfl⟩
 refine WC.condF rfl (beq_eq_false_iff_ne.2 n12) ?_
 refine gz_ ?_
 by_cases n25 : f = 25
 ·subst n25
  refine gz_ ?_
  cases hv : decide ((3 : Int) < v) with
  | false =>
   refine gz_ ?_
   exact end_2 rfl rfl rfl (Env.le.rfl' _) ⟨by simp [clsOf, hv], rfl, rfl⟩
  | true =>
   refine gz_ ?_
   cases h2 : (a == 63) with
   | true =>
    refine gz_ ?_
    exact end_2 rfl rfl rfl (Env.le.rfl' _) ⟨by simp [clsOf, hv, h2], rfl, rfl⟩
   | false =>
    refine gz_ ?_
    exact end_2 rfl rfl rfl (Env.le.rfl' _) ⟨by simp [clsOf, hv, h2], rfl, rfl⟩
 refine WC.condF rfl (beq_eq_false_iff_ne.2 n25) ?_
 refine gz_ ?_
 by_cases n16 : f = 16
 ·subst n16
  refine gz_ ?_
  cases h1 : (a == 73) with
  | true =>
   refine gz_ ?_
   exact end_2 rfl rfl rfl (Env.le.rfl' _) ⟨by simp [clsOf, h1], rfl, rfl⟩
  | false =>
   refine gz_ ?_
   exact end_2 rfl rfl rfl (Env.le.rfl' _) ⟨by simp [clsOf, h1], rfl, rfl⟩
 refine WC.condF rfl (beq_eq_false_iff_ne.2 n16) ?_
 refine gz_ ?_
 by_cases n17 : f = 17
 ·subst n17
  refine gz_ ?_
  cases h1 : (a == 73) with
  | true =>
   refine gz_ ?_
   exact end_2 rfl rfl rfl (Env.le.rfl' _) ⟨by simp [clsOf, h1], rfl, rfl⟩
  | false =>
   refine gz_ ?_
   exact end_2 rfl rfl rfl (Env.le.rfl' _) ⟨by simp [clsOf, h1], rfl, rfl⟩
 refine WC.condF rfl (beq_eq_false_iff_ne.2 n17) ?_
 refine gz_ ?_
 by_cases n18 : f = 18
 ·subst n18
  refine gz_ ?_
  cases h1 : (a == 73) with
  | true =>
   refine gz_ ?_
   exact end_2 rfl rfl rfl (Env.le.rfl' _) ⟨by simp [clsOf, h1], rfl, rfl⟩
  | false =>
   refine gz_ ?_
   exact end_2 rfl rfl rfl (Env.le.rfl' _) ⟨by simp [clsOf, h1], rfl, rfl⟩
 refine WC.condF rfl (beq_eq_false_iff_ne.2 n18) ?_
 refine gz_ ?_
 by_cases n19 : f = 19
 ·subst n19
  refine gz_ ?_
  cases h1 : (a == 73) with
  | true =>
   refine gz_ ?_
   exact end_2 rfl rfl rfl (Env.le.rfl' _) ⟨by simp [clsOf, h1], rfl, rfl⟩
  | false =>
   refine gz_ ?_
   exact end_2 rfl rfl rfl (Env.le.rfl' _) ⟨by simp [clsOf, h1], rfl, rfl⟩
 refine WC.condF rfl (beq_eq_false_iff_ne.2 n19) ?_
 refine gz_ ?_
 by_cases n20 : f = 20
 ·subst n20
  refine gz_ ?_
  cases h1 : (a == 73) with
  | true =>
   refine gz_ ?_
   exact end_2 rfl rfl rfl (Env.le.rfl' _) ⟨by simp [clsOf, h1], rfl, rfl⟩
  | false =>
   refine gz_ ?_
   exact end_2 rfl rfl rfl (Env.le.rfl' _) ⟨by simp [clsOf, h1], rfl, rfl⟩
 refine WC.condF rfl (beq_eq_false_iff_ne.2 n20) ?_
 refine gz_ ?_
 by_cases n21 : f = 21
 ·subst n21
  refine gz_ ?_
  cases h1 : (a == 73) with
  | true =>
   refine gz_ ?_
   exact end_2 rfl rfl rfl (Env.le.rfl' _) ⟨by simp [clsOf, h1], rfl, rfl⟩
  | false =>
   refine gz_ ?_
   exact end_2 rfl rfl rfl (Env.le.rfl' _) ⟨by simp [clsOf, h1], rfl, rfl⟩
 refine WC.condF rfl (beq_eq_false_iff_ne.2 n21) ?_
 refine gz_ ?_
 by_cases n32 : f = 32
 ·subst n32
  refine gz_ ?_
  cases hv : decide ((3 : Int) < v) with
  | false =>
   refine gz_ ?_
   exact end_2 rfl rfl rfl (Env.le.rfl' _) ⟨by simp [clsOf, hv], rfl, rfl⟩
  | true =>
   refine gz_ ?_
   exact end_2 rfl rfl rfl (Env.le.rfl' _) ⟨by simp [clsOf, hv], rfl, rfl⟩
 refine WC.condF rfl (beq_eq_false_iff_ne.2 n32) ?_
 refine gz_ ?_
 by_cases n8 : f = 8
 ·subst n8
  refine gz_ ?_
  cases h1 : (a == 3) with
  | true =>
   refine gz_ ?_
   exact end_2 rfl rfl rfl (Env.le.rfl' _) ⟨by simp [clsOf, h1], rfl, rfl⟩
  | false =>
   refine gz_ ?_
   cases h2 : (a == 27) with
   | true =>
    refine gz_ ?_
    exact end_2 rfl rfl rfl (Env.le.rfl' _) ⟨by simp [clsOf, h1, h2], rfl, rfl⟩
   | false =>
    refine gz_ ?_
    exact end_2 rfl rfl rfl (Env.le.rfl' _) ⟨by simp [clsOf, h1, h2], rfl, rfl⟩
 refine WC.condF rfl (beq_eq_false_iff_ne.2 n8) ?_
 refine gz_ ?_
 by_cases n14 : f = 14
 ·subst n14
  refine gz_ ?_
  cases h1 : (a == 3) with
  | true =>
   refine gz_ ?_
   exact end_2 rfl rfl rfl (Env.le.rfl' _) ⟨by simp [clsOf, h1], rfl, rfl⟩
  | false =>
   refine gz_ ?_
   cases h2 : (a == 27) with
   | true =>
    refine gz_ ?_
    exact end_2 rfl rfl rfl (Env.le.rfl' _) ⟨by simp [clsOf, h1, h2], rfl, rfl⟩
   | false =>
    refine gz_ ?_
    exact end_2 rfl rfl rfl (Env.le.rfl' _) ⟨by simp [clsOf, h1, h2], rfl, rfl⟩
 refine WC.condF rfl (beq_eq_false_iff_ne.2 n14) ?_
 refine gz_ ?_
 by_cases n31 : f = 31
 ·subst n31
  refine gz_ ?_
  cases hv : decide ((4 : Int) < v) with
  | false =>
   refine gz_ ?_
   exact end_2 rfl rfl rfl (Env.le.rfl' _) ⟨by simp [clsOf, hv], rfl, rfl⟩
  | true =>
   refine gz_ ?_
   cases h2 : (a == 3) with
   | true =>
    refine gz_ ?_
    exact end_2 rfl rfl rfl (Env.le.rfl' _) ⟨by simp [clsOf, hv, h2], rfl, rfl⟩
   | false =>
    refine gz_ ?_
    cases h3 : (a == 27) with
    | true =>
     refine gz_ ?_
     exact end_2 rfl rfl rfl (Env.le.rfl' _) ⟨by simp [clsOf, hv, h2, h3], rfl, rfl⟩
    | false =>
     refine gz_ ?_
     exact end_2 rfl rfl rfl (Env.le.rfl' _) ⟨by simp [clsOf, hv, h2, h3], rfl, rfl⟩
 refine WC.condF rfl (beq_eq_false_iff_ne.2 n31) ?_
 refine gz_ ?_
 by_cases n24 : f = 24
 ·subst n24
  refine gz_ ?_
  cases hv : decide ((3 : Int) < v) with
  | false =>
   refine gz_ ?_
   exact end_2 rfl rfl rfl (Env.le.rfl' _) ⟨by simp [clsOf, hv], rfl, rfl⟩
  | true =>
   refine gz_ ?_
   cases h2 : (a == 2) with
   | true =>
    refine gz_ ?_
    exact end_2 rfl rfl rfl (Env.le.rfl' _) ⟨by simp [clsOf, hv, h2], rfl, rfl⟩
   | false =>
    refine gz_ ?_
    exact end_2 rfl rfl rfl (Env.le.rfl' _) ⟨by simp [clsOf, hv, h2], rfl, rfl⟩
 refine WC.condF rfl (beq_eq_false_iff_ne.2 n24) ?_
 refine gz_ ?_
 by_cases n23 : f = 23
 ·subst n23
  refine gz_ ?_
  cases hv : decide ((3 : Int) < v) with
  | false =>
   refine gz_ ?_
   exact end_2 rfl rfl rfl (Env.le.rfl' _) ⟨by simp [clsOf, hv], rfl, rfl⟩
  | true =>
   refine gz_ ?_
   exact end_2 rfl rfl rfl (Env.le.rfl' _) ⟨by simp [clsOf, hv], rfl, rfl⟩
 refine WC.condF rfl (beq_eq_false_iff_ne.2 n23) ?_
 refine gz_ ?_
 exact end_2 rfl rfl rfl (Env.le.rfl' _) ⟨by simp [clsOf, n1, n3, n4, n9, n10, n5, n11, n13, n15, n6, n7, n33, n12, n25, n16, n17, n18, n19, n20, n21, n32, n8, n14, n31, n24, n23], rfl, rfl⟩
theorem offsetSize_ok {Γ : Env} {H : List Blk} (x0 x2 x3 : Value) (w : Bool) :
  Spc Tryz.prog 111 #[.agg #[x0, .bool w, x2, x3]] Γ H (fun v Γ' H' => v = .int .i64 ((offSz w : Nat) : Int) ∧ Γ = Γ' ∧ H = H') := by
 refine Spc.body1 Tryz.func111 rfl Tryz.ntmps111 rfl ?_
 refine WC.seq ?_
 refine WC.region ?_
 (refine WL.box rfl spi_ rfl ?_; intro b)
 refine gz_ ?_
 cases w with
 | true =>
  refine gz_ ?_
  refine WE.drop (b := b) pk_ ?_
  exact end_1 rfl rfl (Env.le.rfl' _) ⟨rfl, rfl, rfl⟩
 | false =>
  refine gz_ ?_
  refine WE.drop (b := b) pk_ ?_
  exact end_1 rfl rfl (Env.le.rfl' _) ⟨rfl, rfl, rfl⟩
theorem sizeOf_ok {Γ : Env} {H : List Blk} (vers size : Int) (w : Bool) (x3 : Value) (f : Int) (hs : 0 ≤ size) :
  Spc Tryz.prog 98 #[.agg #[.int .i64 vers, .bool w, .int .i64 size, x3], .int .i64 f] Γ H (fun v Γ' H' => v = .int .i64 ((szOf vers w size f : Nat) : Int) ∧ Γ = Γ' ∧ H = H') := by
 have hst : ((size.toNat : Nat) : Int) = size := Int.toNat_of_nonneg hs
 refine Spc.body2 Tryz.func98 rfl Tryz.ntmps98 rfl ?_
 refine WC.seq ?_
 refine WC.region ?_
 (refine WL.box rfl spi_ rfl ?_; intro b)
 refine gz_ ?_
 by_cases n11 : f = 11
 ·subst n11
  refine gz_ ?_
  refine WE.drop (b := b) pk_ ?_
  exact end_1 rfl rfl (Env.le.rfl' _) ⟨rfl, rfl, rfl⟩
 refine WC.condF rfl (beq_eq_false_iff_ne.2 n11) ?_
 refine gz_ ?_
 by_cases n12 : f = 12
 ·subst n12
  refine gz_ ?_
  refine WE.drop (b := b) pk_ ?_
  exact end_1 rfl rfl (Env.le.rfl' _) ⟨rfl, rfl, rfl⟩
 refine WC.condF rfl (beq_eq_false_iff_ne.2 n12) ?_
 refine gz_ ?_
 by_cases n17 : f = 17
 ·subst n17
  refine gz_ ?_
  refine WE.drop (b := b) pk_ ?_
  exact end_1 rfl rfl (Env.le.rfl' _) ⟨rfl, rfl, rfl⟩
 refine WC.condF rfl (beq_eq_false_iff_ne.2 n17) ?_
 refine gz_ ?_
 by_cases n5 : f = 5
 ·subst n5
  refine gz_ ?_
  refine WE.drop (b := b) pk_ ?_
  exact end_1 rfl rfl (Env.le.rfl' _) ⟨rfl, rfl, rfl⟩
 refine WC.condF rfl (beq_eq_false_iff_ne.2 n5) ?_
 refine gz_ ?_
 by_cases n18 : f = 18
 ·subst n18
  refine gz_ ?_
  refine WE.drop (b := b) pk_ ?_
  exact end_1 rfl rfl (Env.le.rfl' _) ⟨rfl, rfl, rfl⟩
 refine WC.condF rfl (beq_eq_false_iff_ne.2 n18) ?_
 refine gz_ ?_
 by_cases n6 : f = 6
 ·subst n6
  refine gz_ ?_
  refine WE.drop (b := b) pk_ ?_
  exact end_1 rfl rfl (Env.le.rfl' _) ⟨rfl, rfl, rfl⟩
 refine WC.condF rfl (beq_eq_false_iff_ne.2 n6) ?_
 refine gz_ ?_
 by_cases n19 : f = 19
 ·subst n19
  refine gz_ ?_
  refine WE.drop (b := b) pk_ ?_
  exact end_1 rfl rfl (Env.le.rfl' _) ⟨rfl, rfl, rfl⟩
 refine WC.condF rfl (beq_eq_false_iff_ne.2 n19) ?_
 refine gz_ ?_
 by_cases n7 : f = 7
 ·subst n7
  refine gz_ ?_
  refine WE.drop (b := b) pk_ ?_
  exact end_1 rfl rfl (Env.le.rfl' _) ⟨rfl, rfl, rfl⟩
 refine WC.condF rfl (beq_eq_false_iff_ne.2 n7) ?_
 refine gz_ ?_
 by_cases n20 : f = 20
 ·subst n20
  refine gz_ ?_
  refine WE.drop (b := b) pk_ ?_
  exact end_1 rfl rfl (Env.le.rfl' _) ⟨rfl, rfl, rfl⟩
 refine WC.condF rfl (beq_eq_false_iff_ne.2 n20) ?_
 refine gz_ ?_
 by_cases n32 : f = 32
 ·subst n32
  refine gz_ ?_
  refine WE.drop (b := b) pk_ ?_
  exact end_1 rfl rfl (Env.le.rfl' _) ⟨rfl, rfl, rfl⟩
 refine WC.condF rfl (beq_eq_false_iff_ne.2 n32) ?_
 refine gz_ ?_
 by_cases n1 : f = 1
 ·subst n1
  refine gz_ ?_
  refine WE.drop (b := b) pk_ ?_
  exact end_1 rfl rfl (Env.le.rfl' _) ⟨by simp [szOf, hst], rfl, rfl⟩
 refine WC.condF rfl (beq_eq_false_iff_ne.2 n1) ?_
 refine gz_ ?_
 by_cases n16 : f = 16
 ·subst n16
  refine gz_ ?_
  by_cases hv : vers = 2
  ·refine WC.condT rfl (beq_iff_eq.2 hv) ?_
   refine gz_ ?_
   refine WE.drop (b := b) pk_ ?_
   exact end_1 rfl rfl (Env.le.rfl' _) ⟨by simp [szOf, hst, hv], rfl, rfl⟩
  ·refine WC.condF rfl (beq_eq_false_iff_ne.2 hv) ?_
   refine gz_ ?_
   refine WL.call rfl Tryz.call111 rfl rfl (by exact (offsetSize_ok _ _ _ w)) ?_
   rintro _ _ _ - ⟨rfl, rfl, rfl⟩
   refine gz_ ?_
   refine WE.drop (b := b) pk_ ?_
   exact end_1 rfl rfl (Env.le.rfl' _) ⟨by simp [szOf, hv], rfl, rfl⟩
 refine WC.condF rfl (beq_eq_false_iff_ne.2 n16) ?_
 refine gz_ ?_
 by_cases n23 : f = 23
 ·subst n23
  refine gz_ ?_
  refine WL.call rfl Tryz.call111 rfl rfl (by exact (offsetSize_ok _ _ _ w)) ?_
  rintro _ _ _ - ⟨rfl, rfl, rfl⟩
  refine gz_ ?_
  refine WE.drop (b := b) pk_ ?_
  exact end_1 rfl rfl (Env.le.rfl' _) ⟨by simp [szOf], rfl, rfl⟩
 refine WC.condF rfl (beq_eq_false_iff_ne.2 n23) ?_
 refine gz_ ?_
 refine WE.drop (b := b) pk_ ?_
 exact end_1 rfl rfl (Env.le.rfl' _) ⟨by simp [szOf, n11, n12, n17, n5, n18, n6, n19, n7, n20, n32, n1, n16, n23], rfl, rfl⟩
theorem isText_ok {Γ : Env} {H : List Blk} {s : ByteArray} (hs : s.size ≤ 2147483647) :
  Spc Tryz.prog 32 #[.string s] Γ H (fun v Γ' H' => Γ = Γ' ∧ H = H' ∧ ∃ b, v = .bool b ∧ (b = true → NoZero s)) := by
 refine Spc.body1 Tryz.func32 rfl Tryz.ntmps32 rfl ?_
 refine gz_ ?_
 have hsl : s.data.toList.length = s.size := by rw [Array.length_toList]; rfl
 refine WC.loopE (fun m R' Γ' H' => ∃ i, R' = [(0, .string s), (3, .int .i64 ((i : Nat) : Int))] ∧ Γ = Γ' ∧ H' = H ∧ m = s.size - i ∧ i ≤ s.size ∧ ∀ y ∈ s.data.toList.take i, y ≠ 0)
  ⟨0, rfl, rfl, rfl, rfl, Nat.zero_le _, fun y hy => by simp at hy⟩ sr_ (fun _ h => h) ?_
 rintro m R' Γ' H' ⟨i, rfl, rfl, rfl, rfl, hi, hf⟩
 rcases Nat.lt_or_ge i s.size with hlt | hge
 case inr =>
  have ei : i = s.size := by omega
  subst ei
  refine gz_ ?_
  refine WC.condF rfl (decide_eq_false (by omega)) ?_
  refine gz_ ?_
  rw [← hsl, List.take_length] at hf
  exact end_1 rfl rfl (Env.le.rfl' _) ⟨rfl, rfl, true, rfl, fun _ => hf⟩
 case inl =>
  obtain ⟨x, hx⟩ : ∃ x, s.data.toList[i]? = some x := ⟨_, List.getElem?_eq_getElem (by omega)⟩
  refine gz_ ?_
  refine WC.condT rfl tr_ ?_
  refine gz_ ?_
  refine WL.sidx tab_ok rfl rfl rfl (by omega) (b := x) (by rw [Int.toNat_natCast]; exact hx) rfl ?_
  refine gz_ ?_
  have hwi : IntKind.i64.wrap ((i : Int) + 1) = (i : Int) + 1 := w_i64 (by omega) (by omega)
  cases h0 : ((x.toNat : Int) == 0) with
  | true =>
   refine gz_ ?_
   exact end_1 rfl rfl (Env.le.rfl' _) ⟨rfl, rfl, false, rfl, fun h => by cases h⟩
  | false =>
   refine gz_ ?_
   refine WE.again ⟨i + 1, rfl, rfl, rfl, rfl, hlt, mem_drop_of hx hf (fun e => ?_)⟩ (by omega) ⟨rfl, congrArg (fun z => some (Value.int .i64 z)) hwi, trivial⟩ (fun _ h => h)
   subst e
   cases h0
structure AttF (v : Int) (w : Bool) (z : Int) (a : Att) : Prop where
 cls : (clsOf v a.attr a.form).2 = true
 ind : a.ind = true → a.form ≠ 33
 fit : 0 < szOf v w z a.form → szOf v w z a.form < 8 → a.n < 256 ^ szOf v w z a.form
 c2 : (clsOf v a.attr a.form).1 = 2 → (a.form = 10 → a.b.length < 256) ∧ (a.form = 3 → a.b.length < 65536)
 c5 : (clsOf v a.attr a.form).1 = 5 → a.n ≤ 1
 c6 : (clsOf v a.attr a.form).1 = 6 ∨ (clsOf v a.attr a.form).1 = 10 → a.n < 2147483648
 c12 : (clsOf v a.attr a.form).1 = 12 → NoZero a.s
 c3 : (clsOf v a.attr a.form).1 ≠ 2 → (clsOf v a.attr a.form).1 ≠ 5 → (clsOf v a.attr a.form).1 ≠ 6 → (clsOf v a.attr a.form).1 ≠ 10 → (clsOf v a.attr a.form).1 ≠ 12 → a.form = 15 → a.n < 9223372036854775808
theorem szOf_cases {v z f : Int} {w : Bool} (hz : z = 4 ∨ z = 8) : szOf v w z f = 0 ∨ szOf v w z f = 1 ∨ szOf v w z f = 2 ∨ szOf v w z f = 4 ∨ szOf v w z f = 8 := by
 have ho : offSz w = 4 ∨ offSz w = 8 := by cases w <;> simp [offSz]
 have hz' : z.toNat = 4 ∨ z.toNat = 8 := by omega
 unfold szOf
 generalize offSz w = o at *
 generalize z.toNat = zn at *
 repeat' split
 all_goals omega
def sumBy {α : Type} (f : α → Nat) : List α → Nat
 | [] => 0
 | x :: l => f x + sumBy f l
theorem sumBy_append {α : Type} (f : α → Nat) : ∀ a b : List α, sumBy f (a ++ b) = sumBy f a + sumBy f b
 | [], b => by simp [sumBy]
 | x :: a, b => by simp only [List.cons_append, sumBy, sumBy_append f a b]; omega
theorem sumBy_take {α : Type} (f : α → Nat) {xs : List α} {i : Nat} {x : α} (hx : xs[i]? = some x) : sumBy f (xs.take (i + 1)) = sumBy f (xs.take i) + f x := by
 rw [List.take_add_one, hx, sumBy_append]; simp [sumBy]
theorem sumBy_mem {α : Type} (f : α → Nat) : ∀ {xs : List α} {x : α}, x ∈ xs → f x ≤ sumBy f xs
 | y :: xs, x, h => by
  rcases List.mem_cons.1 h with rfl | h
  ·simp only [sumBy]; omega
  ·have := sumBy_mem f h; simp only [sumBy]; omega
def wA (a : Att) : Nat := 32 + a.s.size + a.b.length
def wN (x : Nod) : Nat := sumBy wA x.atts
def wU (u : Uni) : Nat := sumBy wN u.nods
def stepD (x : Nod) (d : Int) : Int := if x.tag = 0 then d - 1 else if x.ch then d + 1 else d
def aftL : List Nod → Int → Nat → Nat
 | [], _, i => i
 | x :: xs, d, i => if stepD x d ≤ 0 then i + 1 else aftL xs (stepD x d) (i + 1)
def aft (l : List Nod) (i : Nat) : Nat := aftL (l.drop i) 0 i
theorem aftL_le : ∀ (l : List Nod) (d : Int) (i : Nat), i ≤ aftL l d i ∧ aftL l d i ≤ i + l.length
 | [], _, i => by simp [aftL]
 | x :: xs, d, i => by
  simp only [aftL, List.length_cons]
  split
  ·omega
  ·have := aftL_le xs (stepD x d) (i + 1); omega
theorem aft_le (l : List Nod) {i : Nat} (h : i ≤ l.length) : i ≤ aft l i ∧ aft l i ≤ l.length := by
 have := aftL_le (l.drop i) 0 i
 rw [List.length_drop] at this
 unfold aft; omega
theorem After_ok {Γ : Env} {H : List Blk} {xs : List Nod} {v : Value} {i0 : Nat} (h : Arr Γ (NodC Γ) v xs) (hl : xs.length ≤ 2147483647) (hi0 : i0 ≤ xs.length) :
  Spc Tryz.prog 57 #[v, .int .i64 (i0 : Int)] Γ H (fun v Γ' H' => Γ = Γ' ∧ H = H' ∧ v = .int .i64 ((aft xs i0 : Nat) : Int)) := by
 obtain ⟨a0, cap0, cells0, rfl, hcap0, hA0, hL0⟩ := h
 refine Spc.body2 Tryz.func57 rfl Tryz.ntmps57 rfl ?_
 refine gz_ ?_
 refine WC.loopE (fun m R' Γ' H' => ∃ i d, R' = [(0, .slice a0 xs.length cap0), (1, .int .i64 ((i : Nat) : Int)), (5, .int .i64 d)] ∧ Γ = Γ' ∧ H = H' ∧ m = xs.length - i ∧ i ≤ xs.length ∧ -(i : Int) ≤ d ∧ d ≤ i ∧ aft xs i0 = aftL (xs.drop i) d i)
  ⟨i0, 0, rfl, rfl, rfl, rfl, hi0, by omega, by omega, rfl⟩ sr_ (fun _ h => h) ?_
 rintro m R' Γ' H' ⟨i, d, rfl, rfl, rfl, rfl, hi, hd1, hd2, hr⟩
 rcases Nat.lt_or_ge i xs.length with hlt | hge
 case inr =>
  have ei : i = xs.length := by omega
  subst ei
  refine gz_ ?_
  refine WC.condF rfl (decide_eq_false (by omega)) ?_
  refine gz_ ?_
  rw [List.drop_length] at hr
  exact end_1 rfl rfl (Env.le.rfl' _) ⟨rfl, rfl, by rw [hr]; rfl⟩
 case inl =>
  obtain ⟨x, hx⟩ : ∃ x, xs[i]? = some x := ⟨_, List.getElem?_eq_getElem hlt⟩
  obtain ⟨bb, oo, c, rfl, hP, hc⟩ := elemA hA0 hL0 (fun _ _ h => h.len) (w := 4) (by decide) hx
  obtain ⟨vn, rfl, -⟩ := hP
  have hc0 := hc.1
  have hc1 := hc.2.1
  have hdr : xs.drop i = x :: xs.drop (i + 1) := by
   rw [List.drop_eq_getElem_cons hlt]
   rw [List.getElem?_eq_getElem hlt] at hx; injection hx with hx; rw [hx]
  rw [hdr] at hr
  refine gz_ ?_
  refine WC.condT rfl tr_ ?_
  refine gz_ ?_
  refine WC.cutM (fun R' Γ' H' => R' = [(0, .slice (some ⟨bb, oo, none⟩) xs.length cap0), (1, .int .i64 ((i : Nat) : Int)), (5, .int .i64 (stepD x d))] ∧ Γ = Γ' ∧ H = H') ?_ ?_
  ·by_cases ht : x.tag = 0
   ·have hs : stepD x d = d - 1 := if_pos ht
    refine WC.condT rfl (beq_iff_eq.2 ht) ?_
    refine gz_ ?_
    exact WE.mid ⟨rfl, rfl, rfl⟩ ⟨rfl, rfl, by rw [hs]; exact congrArg (fun z => some (Value.int .i64 z)) (w_i64 (by omega) (by omega)), trivial⟩ (fun _ h => h)
   ·refine WC.condF rfl (beq_eq_false_iff_ne.2 ht) ?_
    refine gz_ ?_
    cases hch : x.ch with
    | true =>
     have hs : stepD x d = d + 1 := by unfold stepD; rw [if_neg ht, if_pos hch]
     refine gz_ ?_
     exact WE.mid ⟨rfl, rfl, rfl⟩ ⟨rfl, rfl, by rw [hs]; exact congrArg (fun z => some (Value.int .i64 z)) (w_i64 (by omega) (by omega)), trivial⟩ (fun _ h => h)
    | false =>
     have hs : stepD x d = d := by unfold stepD; rw [if_neg ht, if_neg (by rw [hch]; decide)]
     refine gz_ ?_
     exact WE.mid ⟨rfl, rfl, rfl⟩ ⟨rfl, rfl, by rw [hs]; rfl, trivial⟩ (fun _ h => h)
  rintro R' Γ' H' ⟨rfl, rfl, rfl⟩
  have hsb : d - 1 ≤ stepD x d ∧ stepD x d ≤ d + 1 := by
   unfold stepD; repeat' split
   all_goals omega
  have hwi : IntKind.i64.wrap ((i : Int) + 1) = (i : Int) + 1 := w_i64 (by omega) (by omega)
  refine gz_ ?_
  by_cases hle : stepD x d ≤ 0
  ·refine WC.condT rfl (decide_eq_true hle) ?_
   refine gz_ ?_
   rw [hwi]
   exact end_1 rfl rfl (Env.le.rfl' _) ⟨rfl, rfl, by rw [hr, aftL, if_pos hle]; rfl⟩
  ·refine WC.condF rfl (decide_eq_false hle) ?_
   refine gz_ ?_
   exact WE.again ⟨i + 1, stepD x d, rfl, rfl, rfl, rfl, hlt, by omega, by omega, by rw [hr, aftL, if_neg hle]⟩ (by omega) ⟨rfl, congrArg (fun z => some (Value.int .i64 z)) hwi, rfl, trivial⟩ (fun _ h => h)
end Go.Proofs.YtbgkbgoonjkghaaGreatDoor
namespace Go.Sl
open Go
section
variable {P : Program} {Q : Post} {n : Nat} {D : List Deferred} {R : Regs} {Γ Γ2 : Env} {H : List Blk}
end
end Go.Sl
namespace Go.Proofs.YtbgkbgoonjkghaaGreatDoor
open Go Go.Sl
set_option maxRecDepth 10000
set_option maxHeartbeats 40000000
theorem gs_ {p q : Prop} (k : q) (h : Wrp q → p := by intro k; (repeat (refine WL.g ?_; first | refine WL.nil ?_ | refine WL.run tab_ok rfl rfl ?_ | (refine WL.gLoad ?_; first | refine WL.ld tab_ok rfl rfl rfl pk_ rfl rfl ?_ | refine WL.ldA tab_ok rfl rfl rfl pk_ cut_ rfl ?_ | refine WL.ldI tab_ok rfl rfl rfl (by assumption) rfl ?_ | refine WL.ldR tab_ok rfl rfl rfl (by (repeat (first | assumption | apply Rd.cons)); (first | done | fail)) rfl ?_ | refine WL.ldAI tab_ok rfl rfl rfl (by assumption) rfl rfl ?_) | (refine WL.gStore ?_; refine WL.st tab_ok rfl rfl rfl pk_ spl_ rfl rfl ?_) | (refine WL.gIdx ?_; refine WL.idx tab_ok rfl rfl rfl rfl (by omega) (by omega) rfl ?_) | (refine WL.gBuild ?_; refine WL.build tab_ok rfl spi_ rfl ?_) | (refine WL.gSlice ?_; first | refine WL.slLo tab_ok rfl rfl rfl rfl (by omega) (by omega) (by omega) rfl ?_ | refine WL.slHi tab_ok rfl rfl rfl rfl (by omega) (by omega) rfl ?_ | refine WL.slLH tab_ok rfl rfl rfl rfl rfl (by omega) (by omega) (by omega) rfl ?_) | (refine WL.gBin ?_; first | refine WL.pure tab_ok (evalP_shl rfl rfl (by omega)) rfl ?_ | refine WL.pure tab_ok (evalP_shr rfl rfl (by omega)) rfl ?_) | refine WL.pure tab_ok rfl rfl ?_ | (refine WL.gGuard ?_; first | refine WL.yes rfl rfl rfl ?_ | refine WL.no rfl rfl rfl rfl rfl ?_ | refine WL.noU rfl rfl rfl rfl ?_))); exact k.out) : p := h ⟨k⟩
structure OkNod (v : Int) (w : Bool) (z : Int) (x : Nod) : Prop where
 t0 : 0 ≤ x.tag
 t1 : x.tag ≤ 65535
 na : x.atts.length ≤ 50
 nul : x.tag = 0 → x.ch = false ∧ x.sib = false ∧ x.atts = []
 sib : x.sib = true → x.ch = true
 att : ∀ a ∈ x.atts, AttF v w z a ∧ a.s.size ≤ 4096 ∧ a.b.length ≤ 4096
structure OkUni (u : Uni) : Prop where
 v2 : 2 ≤ u.vers
 v5 : u.vers ≤ 5
 wd : u.wide = true → 3 ≤ u.vers
 sz : u.size = 4 ∨ u.size = 8
 n0 : 0 < u.nods.length
 n1 : u.nods.length ≤ 4096
 light : wU u ≤ 1048576
 top : ∀ x, u.nods[0]? = some x → x.tag ≠ 0 ∧ x.sib = false
 nod : ∀ x ∈ u.nods, OkNod u.vers u.wide u.size x
end Go.Proofs.YtbgkbgoonjkghaaGreatDoor
