/- What is read of an entry: its cells; a cut between two parts of code. The walk of entry. The fields of an entry (AttrField, Val). Units that may have got their bases; the bases' collection, the reader. The reader: Seek to the beginning, Reader, ByteOrder. New, AddSection, copied. open and IsBig of the thin package. IsBig of the thin package. -/
import Derived.Test.YtdplhbmoidepgaaGreatDoorP1
namespace Go.Sl
open Go
section
variable {P : Program} {Q : Post} {n : Nat} {D : List Deferred} {R : Regs} {Γ : Env} {H : List Blk}
/-- What holds between two parts. -/
def Mid (M : Regs → Env → List Blk → Prop) (n : Nat) (D : List Deferred) : Act → World → Prop := fun a w => ∃ R' Γ' H', M R' Γ' H' ∧ Sat n D R' Γ' H' a w
theorem WC.cutE {x y : Code} (M : Regs → Env → List Blk → Prop) (hx : WC P x (Exit.then (Mid M n D) Q) n D R Γ H) (hy : ∀ R' Γ' H', M R' Γ' H' → WC P y Q n D R' Γ' H') : WC P (.seq x y) Q n D R Γ H :=
  ⟨fun a w hs => wp_seq (wp_mono (hx.go a w hs) fun e a w hq => by
    cases e with
    | normal =>
      obtain ⟨R', Γ', H', hM, hs'⟩ := hq
      exact (hy R' Γ' H' hM).go a w hs'
    | _ => exact hq)⟩
theorem WC.cutM {x : Code} (M : Regs → Env → List Blk → Prop) (hx : WC P x (Exit.then (Mid M n D) Q) n D R Γ H) (hy : ∀ R' Γ' H', M R' Γ' H' → WE Q .normal n D R' Γ' H') : WC P x Q n D R Γ H :=
  ⟨fun a w hs => wp_mono (hx.go a w hs) fun e a w hq => by
    cases e with
    | normal =>
      obtain ⟨R', Γ', H', hM, hs'⟩ := hq
      exact (hy R' Γ' H' hM).go a w hs'
    | _ => exact hq⟩
theorem WE.mid {M : Regs → Env → List Blk → Prop} {R' : Regs} {Γ' : Env} {H' : List Blk} (hM : M R' Γ' H') (hR : subR R R') (hH : ∀ w, St Γ H w → St Γ' H' w) : WE (Exit.then (Mid M n D) Q) .normal n D R Γ H :=
  ⟨fun a w hs => ⟨R', Γ', H', hM, hs.defers, hs.size, fun i v e => hs.regs i v (subR_get hR i v e), hH w hs.st⟩⟩
end
end Go.Sl
namespace Go.Proofs.YtdplhbmoidepgaaGreatDoor
open Go Go.Sl
set_option maxRecDepth 10000
set_option maxHeartbeats 4000000
/-- A value as the package tells it. -/
def FVal (Γ : Env) : FV → Value → Prop
  | .u n, v => v = .iface 51 (.int .u64 (n : Int))
  | .i z, v => v = .iface 2 (.int .i64 z)
  | .b b, v => v = .iface 4 (.bool b)
  | .s t, v => v = .iface 9 (.string t)
  | .bs l, v => ∃ w, v = .iface 29 w ∧ Byt Γ w l
  | .o n, v => v = .iface 141 (.int .u32 (n : Int))
theorem FVal.mono {Γ Γ' : Env} (hle : Γ.le Γ') {f : FV} {v : Value} (h : FVal Γ f v) : FVal Γ' f v := by
  cases f with
  | bs l => obtain ⟨w, h1, h2⟩ := h; exact ⟨w, h1, h2.mono hle⟩
  | _ => exact h
def FC (Γ : Env) (vers : Int) (x : Itm) (cs : List Value) : Prop := ∃ t w, cs = [.int .u32 (x.attr : Int), .iface t w, .int .i64 (formClass x.form x.attr vers)] ∧ FVal Γ x.fv (.iface t w)
def FCs (Γ : Env) (vers : Int) : List Itm → List Value → Prop
  | [], cs => cs = []
  | x :: xs, cs => ∃ c1 c2, cs = c1 ++ c2 ∧ FC Γ vers x c1 ∧ FCs Γ vers xs c2
theorem FC.mono {Γ Γ' : Env} (hle : Γ.le Γ') {vers : Int} {x : Itm} {cs : List Value} (h : FC Γ vers x cs) : FC Γ' vers x cs := by
  obtain ⟨t, w, h1, h2⟩ := h; exact ⟨t, w, h1, h2.mono hle⟩
theorem FCs.mono {Γ Γ' : Env} (hle : Γ.le Γ') {vers : Int} : ∀ {xs : List Itm} {cs : List Value}, FCs Γ vers xs cs → FCs Γ' vers xs cs
  | [], _, h => h
  | _ :: _, _, ⟨c1, c2, h1, h2, h3⟩ => ⟨c1, c2, h1, h2.mono hle, FCs.mono hle h3⟩
theorem FC.length {Γ : Env} {vers : Int} {x : Itm} {cs : List Value} (h : FC Γ vers x cs) : cs.length = 3 := by
  obtain ⟨t, w, rfl, -⟩ := h; rfl
theorem FCs.length {Γ : Env} {vers : Int} : ∀ {xs : List Itm} {cs : List Value}, FCs Γ vers xs cs → cs.length = xs.length * 3
  | [], _, h => by cases h; rfl
  | _ :: xs, _, ⟨c1, c2, h1, h2, h3⟩ => by rw [h1, List.length_append, h2.length, FCs.length h3, List.length_cons]; omega
theorem FCs.snoc {Γ : Env} {vers : Int} {x : Itm} {c : List Value} (hc : FC Γ vers x c) : ∀ {xs : List Itm} {cs : List Value}, FCs Γ vers xs cs → FCs Γ vers (xs ++ [x]) (cs ++ c)
  | [], _, h => by cases h; exact ⟨c, [], by simp, hc, rfl⟩
  | _ :: _, _, ⟨c1, c2, h1, h2, h3⟩ => ⟨c1, c2 ++ c, by rw [h1, List.append_assoc], h2, FCs.snoc hc h3⟩
theorem FCs.get {Γ : Env} {vers : Int} : ∀ {xs : List Itm} {cs : List Value} {i : Nat} {x : Itm}, FCs Γ vers xs cs → xs[i]? = some x → ∃ p c q, cs = p ++ (c ++ q) ∧ p.length = i * 3 ∧ FC Γ vers x c
  | [], _, _, _, _, e => by simp at e
  | y :: xs, cs, 0, x, ⟨c1, c2, h1, h2, h3⟩, e => by
    injection e with e; subst e
    exact ⟨[], c1, c2, h1, rfl, h2⟩
  | y :: xs, cs, i + 1, x, ⟨c1, c2, h1, h2, h3⟩, e => by
    obtain ⟨p, c, q, g1, g2, g3⟩ := FCs.get h3 (i := i) (by simpa using e)
    exact ⟨c1 ++ p, c, q, by rw [h1, g1, List.append_assoc], by rw [List.length_append, h2.length, g2]; omega, g3⟩
theorem dec_forms {c : Ctx} {v : Int} {f : Nat} {e : List UInt8} {fv : FV} (h : Dec c v f e fv) : f ∈ formsK ∧ f ≠ 22 := by
  cases h <;> exact ⟨by decide, by decide⟩
/-- An entry that never turns. -/
structure EntR (Γ : Env) (pe : Nat) (off : Nat) (tag : Nat) (ch : Bool) (its : List Itm) (vers : Int) : Prop where
  off : Γ.cell pe 0 = some (.int .u32 (off : Int))
  tag : Γ.cell pe 1 = some (.int .u32 (tag : Int))
  ch : Γ.cell pe 2 = some (.bool ch)
  fld : ∃ pf cs T, Γ.cell pe 3 = some (.slice (some ⟨pf, 0, none⟩) its.length its.length) ∧ Γ.imm pf = some (cel cs T) ∧ FCs Γ vers its cs
theorem EntR.mono {Γ Γ' : Env} (hle : Γ.le Γ') {pe off tag : Nat} {ch : Bool} {its : List Itm} {vers : Int} (h : EntR Γ pe off tag ch its vers) : EntR Γ' pe off tag ch its vers := by
  obtain ⟨h1, h2, h3, pf, cs, T, h4, h5, h6⟩ := h
  exact ⟨hle.cell h1, hle.cell h2, hle.cell h3, pf, cs, T, hle.cell h4, hle.imm _ _ h5, h6.mono hle⟩
theorem fcells_get (vers : Int) : ∀ {l : List AbF} {i : Nat} {f : AbF}, l[i]? = some f → ∃ p q, fcells vers l = p ++ (fcell vers f ++ q) ∧ p.length = i * 4
  | [], _, _, e => by simp at e
  | y :: l, 0, f, e => by injection e with e; subst e; exact ⟨[], fcells vers l, rfl, rfl⟩
  | y :: l, i + 1, f, e => by
    obtain ⟨p, q, h1, h2⟩ := fcells_get vers (l := l) (i := i) (by simpa using e)
    exact ⟨fcell vers y ++ p, q, by rw [fcells, h1, List.append_assoc], by rw [List.length_append, h2]; simp [fcell]; omega⟩
theorem itexts_drop {l : List Itm} {i : Nat} {x : Itm} (h : l[i]? = some x) : itexts (l.drop i) = x.text ++ itexts (l.drop (i + 1)) := by
  have hlt := (List.getElem?_eq_some_iff.1 h).1
  rw [List.drop_eq_getElem_cons hlt]
  rw [List.getElem?_eq_getElem hlt] at h; injection h with h; rw [h]; rfl
end Go.Proofs.YtdplhbmoidepgaaGreatDoor
namespace Go.Proofs.YtdplhbmoidepgaaGreatDoor
open Go Go.Sl
set_option maxRecDepth 10000
set_option maxHeartbeats 40000000

abbrev zField : List Value := [.int .u32 0, .nilIface, .int .i64 0]
theorem entry_ok {Γ : Env} {H F : List Blk} {p pd pu ou : Nat} {c : Ctx} {a : Abb} {its : List Itm} {abs : List Abb} {r : Nat} {es : List MapEntry} {cm off : Nat} {nm d cu ds dl : Value} {post : List Value} {T : TypeId} {l : List UInt8}
   (hG : Glob Γ) (hp : Pick H p (cel (bufc (.pointer (some ⟨pd, 0, none⟩)) (.bool c.big) (ufmt pu ou) nm off d .nilIface post) T) F)
   (hd : Byt Γ d (ulebL a.code ++ (itexts its ++ l)))
   (hu0 : Rd Γ F pu (ou + 0) (.int .u32 (c.base : Int))) (hu3 : Rd Γ F pu (ou + 3) (.map (some r))) (hu5 : Rd Γ F pu (ou + 5) (.int .i64 (c.size : Int))) (hu6 : Rd Γ F pu (ou + 6) (.int .i64 c.vers)) (hu7 : Rd Γ F pu (ou + 7) (.bool c.wide))
   (hr : Γ.imm r = some (.map es.toArray cm)) (hes : AbEnts Γ c.vers abs es) (hdis : abs.Pairwise (fun a b => a.code ≠ b.code)) (ha : a ∈ abs) (hoa : OkA a)
   (hfs : a.fs = its.map Itm.abF) (hits : ∀ x ∈ its, OkItm c x) (hcs : c.size = 4 ∨ c.size = 8)
   (hd7 : Rd Γ F pd 7 ds) (hbs : Byt Γ ds c.str) (hd9 : Rd Γ F pd 9 dl) (hbl : Byt Γ dl c.lin) (hd14 : Rd Γ F pd 14 (.bool c.big)) (hsl : c.str.length < 2147483648) (hll : c.lin.length < 2147483648)
   (hsz : off + (ulebL a.code).length + (itexts its).length + l.length ≤ 2147483648) (hn : its.length < 2147483648) :
   Spc Tryz.prog 86 #[.pointer (some ⟨p, 0, none⟩), cu, .pointer (some ⟨pu, ou, none⟩)] Γ H (fun v Γ' H' => ∃ pe d', v = .pointer (some ⟨pe, 0, none⟩) ∧ EntR Γ' pe off a.tag a.ch its c.vers ∧ Byt Γ' d' l ∧
     H' = (p, cel (bufc (.pointer (some ⟨pd, 0, none⟩)) (.bool c.big) (ufmt pu ou) nm (off + (ulebL a.code).length + (itexts its).length) d' .nilIface post) T) :: F) := by
  refine Spc.perm ?_ hp.perm
  have hcode := hoa.code
  have hcpos := hoa.pos
  have hwcode : IntKind.u32.wrap (a.code : Int) = (a.code : Int) := w_u32 (by omega) (by omega)
  obtain ⟨j, ev, hfind, sl, rfl, him⟩ := hes.hit (i := 0) hdis ha
  refine Spc.body3 Tryz.func86 rfl Tryz.ntmps86 rfl ?_
  refine WC.seq ?_
  refine WC.region ?_
  (refine WL.box rfl spi_ rfl ?_; intro b)
  refine gx_ ?_
  refine WC.draw 15 (.take 0 (.take 1 (.take 2 (.take 3 (.take 4 (.take 5 (.take 6 (.take 7 (.take 8 (.take 9 (.take 10 (.take 11 (.one 12 (.one 13 (.one 14 .done))))))))))))))) (F) mixed (by (repeat (first | exact trivial | refine ⟨⟨_, pk_⟩, ?_⟩ | exact subH_self _ | apply subH_cons)); (first | done | fail)) (by decide +kernel) ?_
  refine dx_ ?_
  refine gx_ ?_
  refine WL.call rfl Tryz.call91 rfl rfl (by exact (buf_uleb (by omega) pk_ hd (by omega))) ?_
  rintro _ _ _ - ⟨rfl, rfl, d1, hd1, rfl⟩
  refine gx_ ?_
  rw [hwcode]
  refine WC.condF rfl (beq_eq_false_iff_ne.2 (by omega)) ?_
  refine gx_ ?_
  have hln : a.fs.length = its.length := by rw [hfs, List.length_map]
  rw [hln] at him
  obtain ⟨aS, capS, rfl, hcapS, himA⟩ := him
  refine WL.lookup tab_ok rfl rfl rfl rfl rfl (.inl hr) hes.keys (v := .tuple #[.agg #[.int .u32 (a.tag : Int), .bool a.ch, .slice aS its.length capS], .bool true]) (by rw [hfind]; rfl) rfl ?_
  refine gx_ ?_
  (refine WL.alloc tab_ok rfl rfl ?_; intro b12)
  refine gx_ ?_
  refine WC.draw 12 (.take 0 (.take 1 (.take 2 (.take 3 (.take 4 (.take 5 (.take 6 (.one 7 (.one 8 (.take 9 (.one 10 (.one 11 .done)))))))))))) ((b12, _) :: F) mixed (by (repeat (first | exact trivial | refine ⟨⟨_, pk_⟩, ?_⟩ | exact subH_self _ | apply subH_cons)); (first | done | fail)) (by decide +kernel) ?_
  refine dx_ ?_
  (refine WL.make tab_ok rfl rfl rfl rfl rfl rfl rfl rfl (by omega) (by omega) (by omega) rfl ?_; intro pf)
  refine dx_ ?_
  (refine WL.box rfl spi_ rfl ?_; intro pe)
  refine dx_ ?_
  refine gx_ ?_
  rw [show ((its.length : Nat) : Int).toNat = its.length from rfl]
  refine WC.loopE (fun m R' Γ' H' => ∃ i o dj cs, R' = [(2, .pointer (some ⟨pu, ou, none⟩)), (3, .pointer (some ⟨b, 0, none⟩)), (8, .int .u32 (c.base : Int)), (9, .int .i64 c.vers), (12, .pointer (some ⟨b12, 0, none⟩)), (14, .pointer (some ⟨pe, 0, none⟩)), (90, .int .i64 (its.length : Int)), (91, .int .i64 ((i : Nat) : Int))] ∧ Γ = Γ' ∧
      H' = (p, cel (bufc (.pointer (some ⟨pd, 0, none⟩)) (.bool c.big) (ufmt pu ou) nm o dj .nilIface post) T) :: (b, cel [.pointer (some ⟨p, 0, none⟩)] 235) :: (b12, cel [.int .u32 (a.tag : Int), .bool a.ch, .slice aS its.length capS] 238) :: (pe, cel [.int .u32 (off : Int), .int .u32 (a.tag : Int), .bool a.ch, .slice (some ⟨pf, 0, none⟩) its.length its.length] 167) :: (pf, cel (cs ++ reps (its.length - i) zField) 160) :: F ∧
      m = its.length - i ∧ i ≤ its.length ∧ Byt Γ dj (itexts (its.drop i) ++ l) ∧ o + (itexts (its.drop i)).length = off + (ulebL a.code).length + (itexts its).length ∧ FCs Γ c.vers (its.take i) cs)
      ⟨0, off + (ulebL a.code).length, d1, [], rfl, rfl, rfl, rfl, Nat.zero_le _, hd1, rfl, rfl⟩ sr_ sm_ ?_
  clear hd hd1 hfind hdis ha hes hr hu0 hu3
  rintro m R' Γ' H' ⟨i, o, dj, cs, rfl, rfl, rfl, rfl, hi, hdj, ho, hcs'⟩
  have hcl : cs.length = i * 3 := by rw [hcs'.length, List.length_take, Nat.min_eq_left hi]
  rcases Nat.lt_or_ge i its.length with hlt | hge
  case inr =>
    have ei : i = its.length := by omega
    subst ei
    refine gx_ ?_
    refine WC.condF rfl (decide_eq_false (by omega)) ?_
    refine gx_ ?_
    rw [Nat.sub_self, show reps 0 zField = [] from rfl, List.append_nil]
    rw [List.drop_length] at hdj ho
    rw [List.take_length] at hcs'
    refine WE.drop (b := b) pk_ ?_
    refine WE.drop (b := b12) pk_ ?_
    refine WE.freeze (b := pf) pk_ (fun hle1 => ?_)
    refine WE.freeze (b := pe) pk_ (fun hle2 => ?_)
    have ho2 : o = off + (ulebL a.code).length + (itexts its).length := by simpa [itexts] using ho
    rw [← ho2]
    refine end_1 rfl rfl (hle1.trans hle2) ⟨pe, dj, rfl, ⟨?_, ?_, ?_, pf, cs, 160, ?_, hle2.imm _ _ (by simp [Env.add]), hcs'.mono (hle1.trans hle2)⟩, hdj.mono (hle1.trans hle2), rfl⟩
    all_goals (simp [Env.cell, Env.add])
  case inl =>
    obtain ⟨⟨xa, xf, xi, xv, xe, xfv⟩, hx⟩ : ∃ x, its[i]? = some x := ⟨_, List.getElem?_eq_getElem hlt⟩
    have hox := hits _ (List.mem_of_getElem? hx)
    have hdec : Dec c xv xf xe xfv := hox.dec
    have hxattr : xa < 4294967296 := hox.attr
    obtain ⟨bs, os, hcell⟩ : ∃ bs os, aS = some ⟨bs, os, none⟩ ∧ ∀ k v, (fcell c.vers (Itm.mk xa xf xi xv xe xfv).abF)[k]? = some v → Γ.cell bs (os + ((i : Nat) : Int).toNat * 4 + k) = some v := by
      obtain ⟨pp, qq, h1, h2⟩ := fcells_get c.vers (l := its.map Itm.abF) (i := i) (f := (Itm.mk xa xf xi xv xe xfv).abF) (by rw [List.getElem?_map, hx]; rfl)
      rw [hfs, h1] at himA
      have hget : ∀ k v, (fcell c.vers (Itm.mk xa xf xi xv xe xfv).abF)[k]? = some v → (pp ++ (fcell c.vers (Itm.mk xa xf xi xv xe xfv).abF ++ qq))[i * 4 + k]? = some v := fun k v hk => by
        rw [List.getElem?_append_right (by omega), ← h2, Nat.add_sub_cancel_left, List.getElem?_append_left (List.getElem?_eq_some_iff.1 hk).1]; exact hk
      obtain ⟨bs, os, g1, g2⟩ := himA _ _ (hget 0 _ rfl)
      refine ⟨bs, os, g1, fun k v hk => ?_⟩
      obtain ⟨bs', os', g3, g4⟩ := himA _ _ (hget k v hk)
      rw [g1] at g3; injection g3 with g3; injection g3 with g3 g5
      subst g3 g5
      rw [Int.toNat_natCast, Nat.add_assoc]; exact g4
    obtain ⟨rfl, hcell⟩ := hcell
    have hc0 := hcell 0 _ rfl
    have hc1 := hcell 1 _ rfl
    have hc2 := hcell 2 _ rfl
    have hc3 := hcell 3 _ rfl
    have hrep : ∀ z : List Value, reps (its.length - i) z = z ++ reps (its.length - (i + 1)) z := fun z => by
      rw [show its.length - i = (its.length - (i + 1)) + 1 by omega]; rfl
    rw [hrep]
    refine gx_ ?_
    refine WC.condT rfl (by first | rfl | exact decide_eq_true (by omega) | (simp; (first | done | fail)) | (simp; omega)) ?_
    refine gx_ ?_
    refine WC.draw 13 (.take 0 (.take 1 (.take 2 (.take 3 (.take 4 (.take 5 (.take 6 (.take 7 (.take 8 (.take 9 (.take 10 (.one 11 (.take 12 (.one 13 .done)))))))))))))) ([(pe, _), (b12, _)]) mixed (by (repeat (first | exact trivial | refine ⟨⟨_, pk_⟩, ?_⟩ | exact subH_self _ | apply subH_cons)); (first | done | fail)) (by decide +kernel) ?_
    refine dx_ ?_
    refine WL.stPre (k := 0) tab_ok rfl rfl rfl pk_ (by (repeat (first | apply Spl.nil | apply Spl.put | apply Spl.skip)); (first | done | fail)) (by omega) rfl rfl ?_
    refine gx_ ?_
    refine WC.draw 13 (.take 0 (.take 1 (.take 2 (.take 3 (.take 4 (.take 5 (.take 6 (.take 7 (.take 8 (.take 9 (.take 10 (.one 11 (.take 12 (.one 13 .done)))))))))))))) ([(pe, _), (b12, _)]) mixed (by (repeat (first | exact trivial | refine ⟨⟨_, pk_⟩, ?_⟩ | exact subH_self _ | apply subH_cons)); (first | done | fail)) (by decide +kernel) ?_
    refine dx_ ?_
    refine WL.stPre (k := 2) tab_ok rfl rfl rfl pk_ (by (repeat (first | apply Spl.nil | apply Spl.put | apply Spl.skip)); (first | done | fail)) (by omega) rfl rfl ?_
    refine gx_ ?_
    obtain ⟨hfk, hf22⟩ := dec_forms hdec
    have hf64 : xf < 64 := by
      simp only [formsK, List.mem_cons, List.not_mem_nil, or_false] at hfk; omega
    have hxt : itexts (its.drop i) = ((if xi then ulebL xf else []) ++ xe) ++ itexts (its.drop (i + 1)) := itexts_drop hx
    refine WC.cutM (fun R' Γ' H' => ∃ o1 d1, R' = [(2, .pointer (some ⟨pu, ou, none⟩)), (3, .pointer (some ⟨b, 0, none⟩)), (8, .int .u32 (c.base : Int)), (9, .int .i64 c.vers), (12, .pointer (some ⟨b12, 0, none⟩)), (14, .pointer (some ⟨pe, 0, none⟩)), (17, .int .i64 ((i : Nat) : Int)), (18, .int .u32 (xf : Int)), (90, .int .i64 (its.length : Int)), (91, .int .i64 ((i : Nat) : Int))] ∧ Γ = Γ' ∧
      H' = (p, cel (bufc (.pointer (some ⟨pd, 0, none⟩)) (.bool c.big) (ufmt pu ou) nm o1 d1 .nilIface post) T) :: (b, cel [.pointer (some ⟨p, 0, none⟩)] 235) :: (b12, cel [.int .u32 (a.tag : Int), .bool a.ch, .slice (some ⟨bs, os, none⟩) its.length capS] 238) :: (pe, cel [.int .u32 (off : Int), .int .u32 (a.tag : Int), .bool a.ch, .slice (some ⟨pf, 0, none⟩) its.length its.length] 167) :: (pf, cel (cs ++ (.int .u32 (xa : Int) :: .nilIface :: .int .i64 (formClass xf xa c.vers) :: reps (its.length - (i + 1)) zField)) 160) :: F ∧
      Byt Γ d1 (xe ++ (itexts (its.drop (i + 1)) ++ l)) ∧ o1 + xe.length + (itexts (its.drop (i + 1))).length = off + (ulebL a.code).length + (itexts its).length) ?_ ?_
    · rw [hxt, List.append_assoc, List.append_assoc] at hdj
      rw [hxt, List.length_append, List.length_append] at ho
      cases hxi : xi
      case false =>
        have e1 : (Itm.mk xa xf false xv xe xfv).abF.form = xf := rfl
        have e2 : ∀ z, (Itm.mk xa xf z xv xe xfv).abF.attr = xa := fun _ => rfl
        rw [hxi] at hdj ho
        rw [hxi] at hc0 hc1 hc2 hc3
        rw [e1, e2]
        refine WC.condF rfl (beq_eq_false_iff_ne.2 (by omega)) ?_
        refine gx_ ?_
        exact WE.mid ⟨o, dj, rfl, rfl, rfl, by simpa using hdj, by simpa [Nat.add_assoc] using ho⟩ sr_ sm_
      case true =>
        have e1 : (Itm.mk xa xf true xv xe xfv).abF.form = 22 := rfl
        have e2 : ∀ z, (Itm.mk xa xf z xv xe xfv).abF.attr = xa := fun _ => rfl
        rw [hxi, if_pos rfl] at hdj ho
        rw [hxi] at hc0 hc1 hc2 hc3
        rw [e1, e2]
        refine gx_ ?_
        refine WL.call rfl Tryz.call91 rfl rfl (by exact (buf_uleb (by omega) pk_ hdj (by omega))) ?_
        rintro _ _ _ - ⟨rfl, rfl, d1, hd1, rfl⟩
        refine gx_ ?_
        have hwf : IntKind.u32.wrap (xf : Int) = (xf : Int) := w_u32 (by omega) (by omega)
        rw [hwf]
        refine WC.draw 17 (.take 0 (.take 1 (.take 2 (.take 3 (.take 4 (.take 5 (.take 6 (.take 7 (.take 8 (.take 9 (.take 10 (.take 11 (.take 12 (.take 13 (.one 14 (.one 15 (.take 16 (.one 17 .done)))))))))))))))))) ([(pe, _), (b12, _), (b, _)]) mixed (by (repeat (first | exact trivial | refine ⟨⟨_, pk_⟩, ?_⟩ | exact subH_self _ | apply subH_cons)); (first | done | fail)) (by decide +kernel) ?_
        refine dx_ ?_
        refine WL.call rfl Tryz.call113 rfl rfl (by exact (formToClass_ok hG hfk _ _ _)) ?_
        rintro _ _ _ - ⟨rfl, rfl, rfl⟩
        refine dx_ ?_
        refine WL.stPre (k := 2) tab_ok rfl rfl rfl pk_ (by (repeat (first | apply Spl.nil | apply Spl.put | apply Spl.skip)); (first | done | fail)) (by omega) rfl rfl ?_
        refine gx_ ?_
        exact WE.mid ⟨o + (ulebL xf).length, d1, rfl, rfl, rfl, hd1, by simpa [Nat.add_assoc] using ho⟩ sr_ sm_
    · rintro R' Γ' H' ⟨o1, d1, rfl, rfl, rfl, hd1, ho1⟩
      refine gx_ ?_
      refine WC.cutM (fun R' Γ' H' => ∃ t w o2 d2, R' = [(2, .pointer (some ⟨pu, ou, none⟩)), (3, .pointer (some ⟨b, 0, none⟩)), (8, .int .u32 (c.base : Int)), (9, .int .i64 c.vers), (12, .pointer (some ⟨b12, 0, none⟩)), (14, .pointer (some ⟨pe, 0, none⟩)), (17, .int .i64 ((i : Nat) : Int)), (19, .iface t w), (90, .int .i64 (its.length : Int)), (91, .int .i64 ((i : Nat) : Int))] ∧ Γ = Γ' ∧
        H' = (p, cel (bufc (.pointer (some ⟨pd, 0, none⟩)) (.bool c.big) (ufmt pu ou) nm o2 d2 .nilIface post) T) :: (b, cel [.pointer (some ⟨p, 0, none⟩)] 235) :: (b12, cel [.int .u32 (a.tag : Int), .bool a.ch, .slice (some ⟨bs, os, none⟩) its.length capS] 238) :: (pe, cel [.int .u32 (off : Int), .int .u32 (a.tag : Int), .bool a.ch, .slice (some ⟨pf, 0, none⟩) its.length its.length] 167) :: (pf, cel (cs ++ (.int .u32 (xa : Int) :: .nilIface :: .int .i64 (formClass xf xa c.vers) :: reps (its.length - (i + 1)) zField)) 160) :: F ∧
        FVal Γ xfv (.iface t w) ∧ Byt Γ d2 (itexts (its.drop (i + 1)) ++ l) ∧ o2 + (itexts (its.drop (i + 1))).length = off + (ulebL a.code).length + (itexts its).length) ?_ ?_
      · have hc3' : Γ.cell bs (os + ((i : Nat) : Int).toNat * 4 + 3) = some (.int .i64 xv) := hc3
        clear hc0 hc1 hc2 hc3 hcell hxt himA hits hfs hox hxattr
        cases hdec
        -- CASES
        case addr nn hn =>
          simp only [List.length_append, fix_length, List.length_cons, List.length_nil] at ho1
          refine gx_ ?_
          refine WL.call rfl Tryz.call93 rfl rfl (by exact (buf_addr hcs hn pk_ (by (repeat (first | assumption | apply Rd.cons)); (first | done | fail)) hd1 (by omega))) ?_
          rintro _ _ _ - ⟨rfl, rfl, d2, hd2, rfl⟩
          refine gx_ ?_
          exact WE.mid ⟨_, _, o1 + c.size, d2, rfl, rfl, rfl, rfl, hd2, by omega⟩ sr_ sm_
        case blk1 ll hl =>
          rw [List.append_assoc] at hd1
          simp only [List.length_append, fix_length] at ho1
          refine gx_ ?_
          refine WC.draw 7 (.take 0 (.take 1 (.one 2 (.take 3 (.one 4 (.take 5 (.one 6 .done))))))) ([(b, _)]) mixed (by (repeat (first | exact trivial | refine ⟨⟨_, pk_⟩, ?_⟩ | exact subH_self _ | apply subH_cons)); (first | done | fail)) (by decide +kernel) ?_
          refine dx_ ?_
          refine WL.call rfl Tryz.call90 rfl rfl (by exact (buf_u8 (by omega) pk_ hd1 (by omega))) ?_
          rintro _ _ _ - ⟨rfl, rfl, d2, hd2, rfl⟩
          refine dx_ ?_
          rw [show IntKind.i64.wrap (ll.length : Int) = (ll.length : Int) from w_i64 (by omega) (by omega)]
          refine WL.call rfl Tryz.call109 rfl rfl (by exact (buf_bytes pk_ hd2 (by omega))) ?_
          rintro vb _ _ - ⟨hvb, rfl, d3, hd3, rfl⟩
          refine dx_ ?_
          refine gx_ ?_
          exact WE.mid ⟨_, _, o1 + 1 + ll.length, d3, rfl, rfl, rfl, ⟨vb, rfl, hvb⟩, hd3, by omega⟩ sr_ sm_
        case blk2 ll hl =>
          rw [List.append_assoc] at hd1
          simp only [List.length_append, fix_length] at ho1
          refine gx_ ?_
          refine WC.draw 7 (.take 0 (.take 1 (.one 2 (.take 3 (.one 4 (.take 5 (.one 6 .done))))))) ([(b, _)]) mixed (by (repeat (first | exact trivial | refine ⟨⟨_, pk_⟩, ?_⟩ | exact subH_self _ | apply subH_cons)); (first | done | fail)) (by decide +kernel) ?_
          refine dx_ ?_
          refine WL.call rfl Tryz.call104 rfl rfl (by exact (buf_u16 (by omega) pk_ hd1 (by omega))) ?_
          rintro _ _ _ - ⟨rfl, rfl, d2, hd2, rfl⟩
          refine dx_ ?_
          rw [show IntKind.i64.wrap (ll.length : Int) = (ll.length : Int) from w_i64 (by omega) (by omega)]
          refine WL.call rfl Tryz.call109 rfl rfl (by exact (buf_bytes pk_ hd2 (by omega))) ?_
          rintro vb _ _ - ⟨hvb, rfl, d3, hd3, rfl⟩
          refine dx_ ?_
          refine gx_ ?_
          exact WE.mid ⟨_, _, o1 + 2 + ll.length, d3, rfl, rfl, rfl, ⟨vb, rfl, hvb⟩, hd3, by omega⟩ sr_ sm_
        case blk4 ll hl =>
          rw [List.append_assoc] at hd1
          simp only [List.length_append, fix_length] at ho1
          refine gx_ ?_
          refine WC.draw 7 (.take 0 (.take 1 (.one 2 (.take 3 (.one 4 (.take 5 (.one 6 .done))))))) ([(b, _)]) mixed (by (repeat (first | exact trivial | refine ⟨⟨_, pk_⟩, ?_⟩ | exact subH_self _ | apply subH_cons)); (first | done | fail)) (by decide +kernel) ?_
          refine dx_ ?_
          refine WL.call rfl Tryz.call107 rfl rfl (by exact (buf_u32 (by omega) pk_ hd1 (by omega))) ?_
          rintro _ _ _ - ⟨rfl, rfl, d2, hd2, rfl⟩
          refine dx_ ?_
          rw [show IntKind.i64.wrap (ll.length : Int) = (ll.length : Int) from w_i64 (by omega) (by omega)]
          refine WL.call rfl Tryz.call109 rfl rfl (by exact (buf_bytes pk_ hd2 (by omega))) ?_
          rintro vb _ _ - ⟨hvb, rfl, d3, hd3, rfl⟩
          refine dx_ ?_
          refine gx_ ?_
          exact WE.mid ⟨_, _, o1 + 4 + ll.length, d3, rfl, rfl, rfl, ⟨vb, rfl, hvb⟩, hd3, by omega⟩ sr_ sm_
        case blk ll hl =>
          rw [List.append_assoc] at hd1
          simp only [List.length_append, fix_length] at ho1
          refine gx_ ?_
          refine WC.draw 7 (.take 0 (.take 1 (.one 2 (.take 3 (.one 4 (.take 5 (.one 6 .done))))))) ([(b, _)]) mixed (by (repeat (first | exact trivial | refine ⟨⟨_, pk_⟩, ?_⟩ | exact subH_self _ | apply subH_cons)); (first | done | fail)) (by decide +kernel) ?_
          refine dx_ ?_
          refine WL.call rfl Tryz.call91 rfl rfl (by exact (buf_uleb (by omega) pk_ hd1 (by omega))) ?_
          rintro _ _ _ - ⟨rfl, rfl, d2, hd2, rfl⟩
          refine dx_ ?_
          rw [show IntKind.i64.wrap (ll.length : Int) = (ll.length : Int) from w_i64 (by omega) (by omega)]
          refine WL.call rfl Tryz.call109 rfl rfl (by exact (buf_bytes pk_ hd2 (by omega))) ?_
          rintro vb _ _ - ⟨hvb, rfl, d3, hd3, rfl⟩
          refine dx_ ?_
          refine gx_ ?_
          exact WE.mid ⟨_, _, o1 + (ulebL ll.length).length + ll.length, d3, rfl, rfl, rfl, ⟨vb, rfl, hvb⟩, hd3, by omega⟩ sr_ sm_
        case exp ll hl =>
          rw [List.append_assoc] at hd1
          simp only [List.length_append, fix_length] at ho1
          refine gx_ ?_
          refine WC.draw 7 (.take 0 (.take 1 (.one 2 (.take 3 (.one 4 (.take 5 (.one 6 .done))))))) ([(b, _)]) mixed (by (repeat (first | exact trivial | refine ⟨⟨_, pk_⟩, ?_⟩ | exact subH_self _ | apply subH_cons)); (first | done | fail)) (by decide +kernel) ?_
          refine dx_ ?_
          refine WL.call rfl Tryz.call91 rfl rfl (by exact (buf_uleb (by omega) pk_ hd1 (by omega))) ?_
          rintro _ _ _ - ⟨rfl, rfl, d2, hd2, rfl⟩
          refine dx_ ?_
          rw [show IntKind.i64.wrap (ll.length : Int) = (ll.length : Int) from w_i64 (by omega) (by omega)]
          refine WL.call rfl Tryz.call109 rfl rfl (by exact (buf_bytes pk_ hd2 (by omega))) ?_
          rintro vb _ _ - ⟨hvb, rfl, d3, hd3, rfl⟩
          refine dx_ ?_
          refine gx_ ?_
          exact WE.mid ⟨_, _, o1 + (ulebL ll.length).length + ll.length, d3, rfl, rfl, rfl, ⟨vb, rfl, hvb⟩, hd3, by omega⟩ sr_ sm_
        case d1 nn hn =>
          simp only [List.length_append, fix_length, List.length_cons, List.length_nil] at ho1
          refine gx_ ?_
          refine WL.call rfl Tryz.call90 rfl rfl (by exact (buf_u8 (by omega) pk_ hd1 (by omega))) ?_
          rintro _ _ _ - ⟨rfl, rfl, d2, hd2, rfl⟩
          refine gx_ ?_
          exact WE.mid ⟨_, _, o1 + 1, d2, rfl, rfl, rfl, congrArg (fun z => Value.iface 2 (.int .i64 z)) (w_i64 (by omega) (by omega)), hd2, by omega⟩ sr_ sm_
        case d2 nn hn =>
          simp only [List.length_append, fix_length, List.length_cons, List.length_nil] at ho1
          refine gx_ ?_
          refine WL.call rfl Tryz.call104 rfl rfl (by exact (buf_u16 (by omega) pk_ hd1 (by omega))) ?_
          rintro _ _ _ - ⟨rfl, rfl, d2, hd2, rfl⟩
          refine gx_ ?_
          exact WE.mid ⟨_, _, o1 + 2, d2, rfl, rfl, rfl, congrArg (fun z => Value.iface 2 (.int .i64 z)) (w_i64 (by omega) (by omega)), hd2, by omega⟩ sr_ sm_
        case d4 nn hn =>
          simp only [List.length_append, fix_length, List.length_cons, List.length_nil] at ho1
          refine gx_ ?_
          refine WL.call rfl Tryz.call107 rfl rfl (by exact (buf_u32 (by omega) pk_ hd1 (by omega))) ?_
          rintro _ _ _ - ⟨rfl, rfl, d2, hd2, rfl⟩
          refine gx_ ?_
          exact WE.mid ⟨_, _, o1 + 4, d2, rfl, rfl, rfl, congrArg (fun z => Value.iface 2 (.int .i64 z)) (w_i64 (by omega) (by omega)), hd2, by omega⟩ sr_ sm_
        case d8 nn hn =>
          simp only [List.length_append, fix_length, List.length_cons, List.length_nil] at ho1
          refine gx_ ?_
          refine WL.call rfl Tryz.call106 rfl rfl (by exact (buf_u64 (by omega) pk_ hd1 (by omega))) ?_
          rintro _ _ _ - ⟨rfl, rfl, d2, hd2, rfl⟩
          refine gx_ ?_
          exact WE.mid ⟨_, _, o1 + 8, d2, rfl, rfl, rfl, rfl, hd2, by omega⟩ sr_ sm_
        case sd zz hz0 hz1 =>
          refine gx_ ?_
          refine WL.call rfl Tryz.call117 rfl rfl (by exact (buf_sleb hz0 hz1 pk_ hd1 (by omega))) ?_
          rintro _ _ _ - ⟨rfl, rfl, d2, hd2, rfl⟩
          refine gx_ ?_
          exact WE.mid ⟨_, _, o1 + (slebL zz).length, d2, rfl, rfl, rfl, rfl, hd2, by omega⟩ sr_ sm_
        case ud nn hn =>
          refine gx_ ?_
          refine WL.call rfl Tryz.call91 rfl rfl (by exact (buf_uleb hn pk_ hd1 (by omega))) ?_
          rintro _ _ _ - ⟨rfl, rfl, d2, hd2, rfl⟩
          refine gx_ ?_
          exact WE.mid ⟨_, _, o1 + (ulebL nn).length, d2, rfl, rfl, rfl, rfl, hd2, by omega⟩ sr_ sm_
        case imp  =>
          rw [List.nil_append] at hd1
          simp only [List.length_nil] at ho1
          refine gx_ ?_
          exact WE.mid ⟨_, _, o1, d1, rfl, rfl, rfl, rfl, hd1, by omega⟩ sr_ sm_
        case flag nn hn =>
          simp only [List.length_append, fix_length, List.length_cons, List.length_nil] at ho1
          refine gx_ ?_
          refine WL.call rfl Tryz.call90 rfl rfl (by exact (buf_u8 (by omega) pk_ hd1 (by omega))) ?_
          rintro _ _ _ - ⟨rfl, rfl, d2, hd2, rfl⟩
          refine gx_ ?_
          exact WE.mid ⟨_, _, o1 + 1, d2, rfl, rfl, rfl, congrArg (fun z => Value.iface 4 (.bool z)) (show ((nn : Int) == 1) = (nn == 1) from by rw [Bool.eq_iff_iff]; simp only [beq_iff_eq]; omega), hd2, by omega⟩ sr_ sm_
        case pres  =>
          rw [List.nil_append] at hd1
          simp only [List.length_nil] at ho1
          refine gx_ ?_
          exact WE.mid ⟨_, _, o1, d1, rfl, rfl, rfl, rfl, hd1, by omega⟩ sr_ sm_
        case radr2 nn hv hn hn2 =>
          simp only [fix_length] at ho1
          refine gx_ ?_
          refine WL.invoke rfl (fun w => run_method_ptr Tryz.underlying162 (by kernel_rfl) _ _ w) Tryz.call157 rfl rfl (by exact (unit_version (a := c.vers) (by (repeat (first | assumption | apply Rd.cons)); (first | done | fail)))) ?_
          rintro _ _ _ - ⟨rfl, rfl, rfl⟩
          refine gx_ ?_
          refine WC.condF rfl (beq_eq_false_iff_ne.2 (by omega)) ?_
          refine gx_ ?_
          refine WC.condT rfl (beq_iff_eq.2 hv) ?_
          refine gx_ ?_
          refine WL.call rfl Tryz.call93 rfl rfl (by exact (buf_addr hcs hn pk_ (by (repeat (first | assumption | apply Rd.cons)); (first | done | fail)) hd1 (by omega))) ?_
          rintro _ _ _ - ⟨rfl, rfl, d2, hd2, rfl⟩
          refine gx_ ?_
          exact WE.mid ⟨_, _, o1 + c.size, d2, rfl, rfl, rfl, congrArg (fun z => Value.iface 141 (.int .u32 z)) (w_u32 (by omega) (by omega)), hd2, by omega⟩ sr_ sm_
        case radr nn hv2 hv0 hn =>
          simp only [fix_length] at ho1
          refine gx_ ?_
          refine WL.invoke rfl (fun w => run_method_ptr Tryz.underlying162 (by kernel_rfl) _ _ w) Tryz.call157 rfl rfl (by exact (unit_version (a := c.vers) (by (repeat (first | assumption | apply Rd.cons)); (first | done | fail)))) ?_
          rintro _ _ _ - ⟨rfl, rfl, rfl⟩
          refine gx_ ?_
          refine WC.condF rfl (beq_eq_false_iff_ne.2 hv0) ?_
          refine gx_ ?_
          refine WC.condF rfl (beq_eq_false_iff_ne.2 hv2) ?_
          refine gx_ ?_
          refine WL.invoke rfl (fun w => run_method_ptr Tryz.underlying162 (by kernel_rfl) _ _ w) Tryz.call156 rfl rfl (by exact (unit_dwarf64 (a := c.wide) (by (repeat (first | assumption | apply Rd.cons)); (first | done | fail)))) ?_
          rintro _ _ _ - ⟨rfl, rfl, rfl⟩
          refine gx_ ?_
          cases hw : c.wide
          · rw [hw] at hd1 ho1
            simp only [offSz, cond_false] at hd1 ho1
            refine gx_ ?_
            refine WL.call rfl Tryz.call107 rfl rfl (by exact (buf_u32 (by omega) pk_ hd1 (by omega))) ?_
            rintro _ _ _ - ⟨rfl, rfl, d2, hd2, rfl⟩
            refine gx_ ?_
            exact WE.mid ⟨_, _, o1 + 4, d2, rfl, rfl, rfl, rfl, hd2, by omega⟩ sr_ sm_
          · rw [hw] at hd1 ho1
            simp only [offSz, cond_true] at hd1 ho1
            refine gx_ ?_
            refine WL.call rfl Tryz.call106 rfl rfl (by exact (buf_u64 (by omega) pk_ hd1 (by omega))) ?_
            rintro _ _ _ - ⟨rfl, rfl, d2, hd2, rfl⟩
            refine gx_ ?_
            exact WE.mid ⟨_, _, o1 + 8, d2, rfl, rfl, rfl, congrArg (fun z => Value.iface 141 (.int .u32 z)) (w_u32 (by omega) (by omega)), hd2, by omega⟩ sr_ sm_
        case ref1 nn hn hb =>
          simp only [List.length_append, fix_length, List.length_cons, List.length_nil] at ho1
          refine gx_ ?_
          refine WL.call rfl Tryz.call90 rfl rfl (by exact (buf_u8 (by omega) pk_ hd1 (by omega))) ?_
          rintro _ _ _ - ⟨rfl, rfl, d2, hd2, rfl⟩
          refine gx_ ?_
          rw [show IntKind.u32.wrap (nn : Int) = (nn : Int) from w_u32 (by omega) (by omega)]
          rw [show IntKind.u32.wrap ((nn : Int) + (c.base : Int)) = ((nn + c.base : Nat) : Int) from by rw [w_u32 (by omega) (by omega)]; omega]
          exact WE.mid ⟨_, _, o1 + 1, d2, rfl, rfl, rfl, rfl, hd2, by omega⟩ sr_ sm_
        case ref2 nn hn hb =>
          simp only [List.length_append, fix_length, List.length_cons, List.length_nil] at ho1
          refine gx_ ?_
          refine WL.call rfl Tryz.call104 rfl rfl (by exact (buf_u16 (by omega) pk_ hd1 (by omega))) ?_
          rintro _ _ _ - ⟨rfl, rfl, d2, hd2, rfl⟩
          refine gx_ ?_
          rw [show IntKind.u32.wrap (nn : Int) = (nn : Int) from w_u32 (by omega) (by omega)]
          rw [show IntKind.u32.wrap ((nn : Int) + (c.base : Int)) = ((nn + c.base : Nat) : Int) from by rw [w_u32 (by omega) (by omega)]; omega]
          exact WE.mid ⟨_, _, o1 + 2, d2, rfl, rfl, rfl, rfl, hd2, by omega⟩ sr_ sm_
        case ref4 nn hb =>
          simp only [List.length_append, fix_length, List.length_cons, List.length_nil] at ho1
          refine gx_ ?_
          refine WL.call rfl Tryz.call107 rfl rfl (by exact (buf_u32 (by omega) pk_ hd1 (by omega))) ?_
          rintro _ _ _ - ⟨rfl, rfl, d2, hd2, rfl⟩
          refine gx_ ?_
          rw [show IntKind.u32.wrap ((nn : Int) + (c.base : Int)) = ((nn + c.base : Nat) : Int) from by rw [w_u32 (by omega) (by omega)]; omega]
          exact WE.mid ⟨_, _, o1 + 4, d2, rfl, rfl, rfl, rfl, hd2, by omega⟩ sr_ sm_
        case ref8 nn hb =>
          simp only [List.length_append, fix_length, List.length_cons, List.length_nil] at ho1
          refine gx_ ?_
          refine WL.call rfl Tryz.call106 rfl rfl (by exact (buf_u64 (by omega) pk_ hd1 (by omega))) ?_
          rintro _ _ _ - ⟨rfl, rfl, d2, hd2, rfl⟩
          refine gx_ ?_
          rw [show IntKind.u32.wrap (nn : Int) = (nn : Int) from w_u32 (by omega) (by omega)]
          rw [show IntKind.u32.wrap ((nn : Int) + (c.base : Int)) = ((nn + c.base : Nat) : Int) from by rw [w_u32 (by omega) (by omega)]; omega]
          exact WE.mid ⟨_, _, o1 + 8, d2, rfl, rfl, rfl, rfl, hd2, by omega⟩ sr_ sm_
        case refu nn hb =>
          refine gx_ ?_
          refine WL.call rfl Tryz.call91 rfl rfl (by exact (buf_uleb (by omega) pk_ hd1 (by omega))) ?_
          rintro _ _ _ - ⟨rfl, rfl, d2, hd2, rfl⟩
          refine gx_ ?_
          rw [show IntKind.u32.wrap (nn : Int) = (nn : Int) from w_u32 (by omega) (by omega)]
          rw [show IntKind.u32.wrap ((nn : Int) + (c.base : Int)) = ((nn + c.base : Nat) : Int) from by rw [w_u32 (by omega) (by omega)]; omega]
          exact WE.mid ⟨_, _, o1 + (ulebL nn).length, d2, rfl, rfl, rfl, rfl, hd2, by omega⟩ sr_ sm_
        case sig nn hn =>
          simp only [List.length_append, fix_length, List.length_cons, List.length_nil] at ho1
          refine gx_ ?_
          refine WL.call rfl Tryz.call106 rfl rfl (by exact (buf_u64 (by omega) pk_ hd1 (by omega))) ?_
          rintro _ _ _ - ⟨rfl, rfl, d2, hd2, rfl⟩
          refine gx_ ?_
          exact WE.mid ⟨_, _, o1 + 8, d2, rfl, rfl, rfl, rfl, hd2, by omega⟩ sr_ sm_
        case str tt hnz =>
          rw [List.append_assoc] at hd1
          simp only [List.length_append, List.length_cons, List.length_nil] at ho1
          refine gx_ ?_
          refine WL.call rfl Tryz.call111 rfl rfl (by exact (buf_string pk_ hd1 hnz (by omega))) ?_
          rintro _ _ _ - ⟨rfl, rfl, d2, hd2, rfl⟩
          refine gx_ ?_
          exact WE.mid ⟨_, _, o1 + tt.data.toList.length + 1, d2, rfl, rfl, rfl, congrArg (fun z => Value.iface 9 (.string z)) (show (⟨tt.data.toList.toArray⟩ : ByteArray) = tt from rfl), hd2, by omega⟩ sr_ sm_
        case strp kk tt lz hnz hkk hk =>
          have hk1 : kk < c.str.length := by
            have h1 := congrArg List.length hkk
            rw [List.length_drop, List.length_append, List.length_cons] at h1; omega
          have hkt : (c.str.take kk).length = kk := by rw [List.length_take, Nat.min_eq_left (by omega)]
          have hsd : Byt Γ ds (c.str.take kk ++ (tt.data.toList ++ 0 :: lz)) := by rw [← hkk, List.take_append_drop]; exact hbs
          have hszt : kk + tt.data.toList.length + 1 ≤ c.str.length := by
            have h1 := congrArg List.length hkk
            rw [List.length_drop, List.length_append, List.length_cons] at h1; omega
          have htt : ∀ q ∈ tt.data.toList, q ≠ 0 := hnz
          obtain ⟨az, cz, rfl, -, -⟩ := hbs
          simp only [fix_length] at ho1
          refine gx_ ?_
          refine WL.invoke rfl (fun w => run_method_ptr Tryz.underlying162 (by kernel_rfl) _ _ w) Tryz.call156 rfl rfl (by exact (unit_dwarf64 (a := c.wide) (by (repeat (first | assumption | apply Rd.cons)); (first | done | fail)))) ?_
          rintro _ _ _ - ⟨rfl, rfl, rfl⟩
          refine gx_ ?_
          cases hw : c.wide
          · rw [hw] at hd1 ho1
            simp only [offSz, cond_false] at hd1 ho1
            refine gx_ ?_
            refine WL.call rfl Tryz.call107 rfl rfl (by exact (buf_u32 (by omega) pk_ hd1 (by omega))) ?_
            rintro _ _ _ - ⟨rfl, rfl, d2, hd2, rfl⟩
            refine gx_ ?_
            rw [show IntKind.u64.wrap (kk : Int) = (kk : Int) from w_u64 (by omega) (by omega)]
            rw [show IntKind.i64.wrap (kk : Int) = (kk : Int) from w_i64 (by omega) (by omega)]
            rw [show IntKind.u64.wrap (kk : Int) = (kk : Int) from w_u64 (by omega) (by omega)]
            refine WC.condF rfl (by simp) ?_
            refine gx_ ?_
            (refine WL.alloc tab_ok rfl rfl ?_; intro b29)
            refine gx_ ?_
            refine WC.draw 16 (.take 0 (.take 1 (.take 2 (.take 3 (.take 4 (.take 5 (.take 6 (.take 7 (.take 8 (.take 9 (.take 10 (.take 11 (.take 12 (.take 13 (.take 14 (.one 15 (.one 16 .done))))))))))))))))) ((b, _) :: (p, _) :: F) mixed (by (repeat (first | exact trivial | refine ⟨⟨_, pk_⟩, ?_⟩ | exact subH_self _ | apply subH_cons)); (first | done | fail)) (by decide +kernel) ?_
            refine dx_ ?_
            refine WL.call rfl Tryz.call68 rfl rfl (by exact (makeBuf_ok (off := 0) (by (repeat (first | assumption | apply Rd.cons)); (first | done | fail)))) ?_
            rintro _ _ _ - ⟨rfl, rfl, rfl⟩
            refine dx_ ?_
            refine gx_ ?_
            rw [show IntKind.i64.wrap (kk : Int) = ((c.str.take kk).length : Int) from by rw [hkt]; exact w_i64 (by omega) (by omega)]
            refine WL.call rfl Tryz.call89 rfl rfl (by exact (buf_skip pk_ hsd (by omega))) ?_
            rintro _ _ _ - ⟨rfl, rfl, d3, hd3, rfl⟩
            refine gx_ ?_
            refine WL.call rfl Tryz.call111 rfl rfl (by exact (buf_string pk_ hd3 htt (by omega))) ?_
            rintro _ _ _ - ⟨rfl, rfl, d4, hd4, rfl⟩
            refine gx_ ?_
            exact WE.mid ⟨_, _, o1 + 4, d2, rfl, rfl, rfl, congrArg (fun z => Value.iface 9 (.string z)) (show (⟨tt.data.toList.toArray⟩ : ByteArray) = tt from rfl), hd2, by omega⟩ sr_ sm_
          · rw [hw] at hd1 ho1
            simp only [offSz, cond_true] at hd1 ho1
            refine gx_ ?_
            refine WL.call rfl Tryz.call106 rfl rfl (by exact (buf_u64 (by omega) pk_ hd1 (by omega))) ?_
            rintro _ _ _ - ⟨rfl, rfl, d2, hd2, rfl⟩
            refine gx_ ?_
            rw [show IntKind.i64.wrap (kk : Int) = (kk : Int) from w_i64 (by omega) (by omega)]
            rw [show IntKind.u64.wrap (kk : Int) = (kk : Int) from w_u64 (by omega) (by omega)]
            refine WC.condF rfl (by simp) ?_
            refine gx_ ?_
            (refine WL.alloc tab_ok rfl rfl ?_; intro b29)
            refine gx_ ?_
            refine WC.draw 16 (.take 0 (.take 1 (.take 2 (.take 3 (.take 4 (.take 5 (.take 6 (.take 7 (.take 8 (.take 9 (.take 10 (.take 11 (.take 12 (.take 13 (.take 14 (.one 15 (.one 16 .done))))))))))))))))) ((b, _) :: (p, _) :: F) mixed (by (repeat (first | exact trivial | refine ⟨⟨_, pk_⟩, ?_⟩ | exact subH_self _ | apply subH_cons)); (first | done | fail)) (by decide +kernel) ?_
            refine dx_ ?_
            refine WL.call rfl Tryz.call68 rfl rfl (by exact (makeBuf_ok (off := 0) (by (repeat (first | assumption | apply Rd.cons)); (first | done | fail)))) ?_
            rintro _ _ _ - ⟨rfl, rfl, rfl⟩
            refine dx_ ?_
            refine gx_ ?_
            rw [show IntKind.i64.wrap (kk : Int) = ((c.str.take kk).length : Int) from by rw [hkt]; exact w_i64 (by omega) (by omega)]
            refine WL.call rfl Tryz.call89 rfl rfl (by exact (buf_skip pk_ hsd (by omega))) ?_
            rintro _ _ _ - ⟨rfl, rfl, d3, hd3, rfl⟩
            refine gx_ ?_
            refine WL.call rfl Tryz.call111 rfl rfl (by exact (buf_string pk_ hd3 htt (by omega))) ?_
            rintro _ _ _ - ⟨rfl, rfl, d4, hd4, rfl⟩
            refine gx_ ?_
            exact WE.mid ⟨_, _, o1 + 8, d2, rfl, rfl, rfl, congrArg (fun z => Value.iface 9 (.string z)) (show (⟨tt.data.toList.toArray⟩ : ByteArray) = tt from rfl), hd2, by omega⟩ sr_ sm_
        case lstrp kk tt lz hnz hkk hk =>
          have hk1 : kk < c.lin.length := by
            have h1 := congrArg List.length hkk
            rw [List.length_drop, List.length_append, List.length_cons] at h1; omega
          have hkt : (c.lin.take kk).length = kk := by rw [List.length_take, Nat.min_eq_left (by omega)]
          have hsd : Byt Γ dl (c.lin.take kk ++ (tt.data.toList ++ 0 :: lz)) := by rw [← hkk, List.take_append_drop]; exact hbl
          have hszt : kk + tt.data.toList.length + 1 ≤ c.lin.length := by
            have h1 := congrArg List.length hkk
            rw [List.length_drop, List.length_append, List.length_cons] at h1; omega
          have htt : ∀ q ∈ tt.data.toList, q ≠ 0 := hnz
          obtain ⟨az, cz, rfl, -, -⟩ := hbl
          simp only [fix_length] at ho1
          refine gx_ ?_
          refine WL.invoke rfl (fun w => run_method_ptr Tryz.underlying162 (by kernel_rfl) _ _ w) Tryz.call156 rfl rfl (by exact (unit_dwarf64 (a := c.wide) (by (repeat (first | assumption | apply Rd.cons)); (first | done | fail)))) ?_
          rintro _ _ _ - ⟨rfl, rfl, rfl⟩
          refine gx_ ?_
          cases hw : c.wide
          · rw [hw] at hd1 ho1
            simp only [offSz, cond_false] at hd1 ho1
            refine gx_ ?_
            refine WL.call rfl Tryz.call107 rfl rfl (by exact (buf_u32 (by omega) pk_ hd1 (by omega))) ?_
            rintro _ _ _ - ⟨rfl, rfl, d2, hd2, rfl⟩
            refine gx_ ?_
            rw [show IntKind.u64.wrap (kk : Int) = (kk : Int) from w_u64 (by omega) (by omega)]
            rw [show IntKind.i64.wrap (kk : Int) = (kk : Int) from w_i64 (by omega) (by omega)]
            rw [show IntKind.u64.wrap (kk : Int) = (kk : Int) from w_u64 (by omega) (by omega)]
            refine WC.condF rfl (by simp) ?_
            refine gx_ ?_
            (refine WL.alloc tab_ok rfl rfl ?_; intro b29)
            refine gx_ ?_
            refine WC.condF rfl (beq_eq_false_iff_ne.2 (by omega)) ?_
            refine gx_ ?_
            refine WC.draw 16 (.take 0 (.take 1 (.take 2 (.take 3 (.take 4 (.take 5 (.take 6 (.take 7 (.take 8 (.take 9 (.take 10 (.take 11 (.take 12 (.take 13 (.take 14 (.one 15 (.one 16 .done))))))))))))))))) ((b, _) :: (p, _) :: F) mixed (by (repeat (first | exact trivial | refine ⟨⟨_, pk_⟩, ?_⟩ | exact subH_self _ | apply subH_cons)); (first | done | fail)) (by decide +kernel) ?_
            refine dx_ ?_
            refine WL.call rfl Tryz.call68 rfl rfl (by exact (makeBuf_ok (off := 0) (by (repeat (first | assumption | apply Rd.cons)); (first | done | fail)))) ?_
            rintro _ _ _ - ⟨rfl, rfl, rfl⟩
            refine dx_ ?_
            refine gx_ ?_
            rw [show IntKind.i64.wrap (kk : Int) = ((c.lin.take kk).length : Int) from by rw [hkt]; exact w_i64 (by omega) (by omega)]
            refine WL.call rfl Tryz.call89 rfl rfl (by exact (buf_skip pk_ hsd (by omega))) ?_
            rintro _ _ _ - ⟨rfl, rfl, d3, hd3, rfl⟩
            refine gx_ ?_
            refine WL.call rfl Tryz.call111 rfl rfl (by exact (buf_string pk_ hd3 htt (by omega))) ?_
            rintro _ _ _ - ⟨rfl, rfl, d4, hd4, rfl⟩
            refine gx_ ?_
            exact WE.mid ⟨_, _, o1 + 4, d2, rfl, rfl, rfl, congrArg (fun z => Value.iface 9 (.string z)) (show (⟨tt.data.toList.toArray⟩ : ByteArray) = tt from rfl), hd2, by omega⟩ sr_ sm_
          · rw [hw] at hd1 ho1
            simp only [offSz, cond_true] at hd1 ho1
            refine gx_ ?_
            refine WL.call rfl Tryz.call106 rfl rfl (by exact (buf_u64 (by omega) pk_ hd1 (by omega))) ?_
            rintro _ _ _ - ⟨rfl, rfl, d2, hd2, rfl⟩
            refine gx_ ?_
            rw [show IntKind.i64.wrap (kk : Int) = (kk : Int) from w_i64 (by omega) (by omega)]
            rw [show IntKind.u64.wrap (kk : Int) = (kk : Int) from w_u64 (by omega) (by omega)]
            refine WC.condF rfl (by simp) ?_
            refine gx_ ?_
            (refine WL.alloc tab_ok rfl rfl ?_; intro b29)
            refine gx_ ?_
            refine WC.condF rfl (beq_eq_false_iff_ne.2 (by omega)) ?_
            refine gx_ ?_
            refine WC.draw 16 (.take 0 (.take 1 (.take 2 (.take 3 (.take 4 (.take 5 (.take 6 (.take 7 (.take 8 (.take 9 (.take 10 (.take 11 (.take 12 (.take 13 (.take 14 (.one 15 (.one 16 .done))))))))))))))))) ((b, _) :: (p, _) :: F) mixed (by (repeat (first | exact trivial | refine ⟨⟨_, pk_⟩, ?_⟩ | exact subH_self _ | apply subH_cons)); (first | done | fail)) (by decide +kernel) ?_
            refine dx_ ?_
            refine WL.call rfl Tryz.call68 rfl rfl (by exact (makeBuf_ok (off := 0) (by (repeat (first | assumption | apply Rd.cons)); (first | done | fail)))) ?_
            rintro _ _ _ - ⟨rfl, rfl, rfl⟩
            refine dx_ ?_
            refine gx_ ?_
            rw [show IntKind.i64.wrap (kk : Int) = ((c.lin.take kk).length : Int) from by rw [hkt]; exact w_i64 (by omega) (by omega)]
            refine WL.call rfl Tryz.call89 rfl rfl (by exact (buf_skip pk_ hsd (by omega))) ?_
            rintro _ _ _ - ⟨rfl, rfl, d3, hd3, rfl⟩
            refine gx_ ?_
            refine WL.call rfl Tryz.call111 rfl rfl (by exact (buf_string pk_ hd3 htt (by omega))) ?_
            rintro _ _ _ - ⟨rfl, rfl, d4, hd4, rfl⟩
            refine gx_ ?_
            exact WE.mid ⟨_, _, o1 + 8, d2, rfl, rfl, rfl, congrArg (fun z => Value.iface 9 (.string z)) (show (⟨tt.data.toList.toArray⟩ : ByteArray) = tt from rfl), hd2, by omega⟩ sr_ sm_
        case sec nn hn =>
          simp only [fix_length] at ho1
          refine gx_ ?_
          refine WL.invoke rfl (fun w => run_method_ptr Tryz.underlying162 (by kernel_rfl) _ _ w) Tryz.call156 rfl rfl (by exact (unit_dwarf64 (a := c.wide) (by (repeat (first | assumption | apply Rd.cons)); (first | done | fail)))) ?_
          rintro _ _ _ - ⟨rfl, rfl, rfl⟩
          refine gx_ ?_
          cases hw : c.wide
          · rw [hw] at hd1 ho1
            simp only [offSz, cond_false] at hd1 ho1
            refine gx_ ?_
            refine WL.call rfl Tryz.call107 rfl rfl (by exact (buf_u32 (by omega) pk_ hd1 (by omega))) ?_
            rintro _ _ _ - ⟨rfl, rfl, d2, hd2, rfl⟩
            refine gx_ ?_
            exact WE.mid ⟨_, _, o1 + 4, d2, rfl, rfl, rfl, congrArg (fun z => Value.iface 2 (.int .i64 z)) (w_i64 (by omega) (by omega)), hd2, by omega⟩ sr_ sm_
          · rw [hw] at hd1 ho1
            simp only [offSz, cond_true] at hd1 ho1
            refine gx_ ?_
            refine WL.call rfl Tryz.call106 rfl rfl (by exact (buf_u64 (by omega) pk_ hd1 (by omega))) ?_
            rintro _ _ _ - ⟨rfl, rfl, d2, hd2, rfl⟩
            refine gx_ ?_
            exact WE.mid ⟨_, _, o1 + 8, d2, rfl, rfl, rfl, congrArg (fun z => Value.iface 2 (.int .i64 z)) (w_i64 (by omega) (by omega)), hd2, by omega⟩ sr_ sm_
        -- END
      · rintro R' Γ' H' ⟨t, w, o2, d2, rfl, rfl, rfl, hfv, hd2, ho2⟩
        refine gx_ ?_
        refine WL.stPre (k := 1) tab_ok rfl rfl rfl pk_ (by (repeat (first | apply Spl.nil | apply Spl.put | apply Spl.skip)); (first | done | fail)) (by omega) rfl rfl ?_
        refine gx_ ?_
        have hwi : IntKind.i64.wrap ((i : Int) + 1) = (i : Int) + 1 := w_i64 (by omega) (by omega)
        refine WE.again ⟨i + 1, o2, d2, cs ++ [.int .u32 (xa : Int), .iface t w, .int .i64 (formClass xf xa c.vers)], rfl, rfl, rfl, rfl, hlt, hd2, ho2, ?_⟩ (by omega) ⟨rfl, rfl, rfl, rfl, rfl, rfl, rfl, congrArg (fun z => some (Value.int .i64 z)) hwi, trivial⟩ ?_
        · rw [List.take_add_one, hx]
          exact FCs.snoc ⟨t, w, rfl, hfv⟩ hcs'
        · rw [List.append_assoc]
          exact sm_
end Go.Proofs.YtdplhbmoidepgaaGreatDoor
namespace Go.Proofs.YtdplhbmoidepgaaGreatDoor
open Go Go.Sl
set_option maxRecDepth 10000
set_option maxHeartbeats 40000000

abbrev isA (a : Nat) : Itm → Bool := fun x => x.attr == a
theorem attrField_ok {Γ : Env} {H : List Blk} {pe off tag : Nat} {ch : Bool} {its : List Itm} {vers : Int} (h : EntR Γ pe off tag ch its vers) (a : Nat) (hn : its.length < 2147483648) :
   Spc Tryz.prog 63 #[.pointer (some ⟨pe, 0, none⟩), .int .u32 (a : Int)] Γ H (fun v Γ' H' => Γ = Γ' ∧ H = H' ∧
     match its.find? (isA a) with
     | none => v = .pointer none
     | some x => ∃ pf o t w, v = .pointer (some ⟨pf, o, none⟩) ∧ Γ.cell pf (o + 1) = some (.iface t w) ∧ Γ.cell pf (o + 2) = some (.int .i64 (formClass x.form x.attr vers)) ∧ FVal Γ x.fv (.iface t w)) := by
  obtain ⟨h0, h1, h2, pf, cs, T, h3, h4, h5⟩ := h
  have h3' : Γ.cell pe (0 + 3) = _ := h3
  refine Spc.body2 Tryz.func63 rfl Tryz.ntmps63 rfl ?_
  refine gx_ ?_
  refine WC.loopE (fun m R' Γ' H' => ∃ i, R' = [(0, .pointer (some ⟨pe, 0, none⟩)), (1, .int .u32 (a : Int)), (10, .slice (some ⟨pf, 0, none⟩) its.length its.length), (11, .int .i64 (its.length : Int)), (12, .int .i64 ((i : Nat) : Int))] ∧ Γ = Γ' ∧ H' = H ∧ m = its.length - i ∧ i ≤ its.length ∧ its.find? (isA a) = (its.drop i).find? (isA a))
    ⟨0, rfl, rfl, rfl, rfl, Nat.zero_le _, rfl⟩ sr_ (fun _ h => h) ?_
  rintro m R' Γ' H' ⟨i, rfl, rfl, rfl, rfl, hi, hfd⟩
  rcases Nat.lt_or_ge i its.length with hlt | hge
  case inr =>
    have ei : i = its.length := by omega
    subst ei
    refine gx_ ?_
    refine WC.condF rfl (decide_eq_false (by omega)) ?_
    refine gx_ ?_
    rw [hfd, List.drop_length]
    exact end_1 rfl rfl (Env.le.rfl' _) ⟨rfl, rfl, rfl⟩
  case inl =>
    obtain ⟨x, hx⟩ : ∃ x, its[i]? = some x := ⟨_, List.getElem?_eq_getElem hlt⟩
    obtain ⟨p, c, q, g1, g2, t, w, rfl, g4⟩ := h5.get hx
    have hdr : its.drop i = x :: its.drop (i + 1) := by
      rw [List.drop_eq_getElem_cons hlt]
      rw [List.getElem?_eq_getElem hlt] at hx; injection hx with hx; rw [hx]
    have hcell : ∀ k v, [Value.int .u32 (x.attr : Int), .iface t w, .int .i64 (formClass x.form x.attr vers)][k]? = some v → Γ.cell pf (0 + ((i : Nat) : Int).toNat * 3 + k) = some v := fun k v hk => by
      have hlt := (List.getElem?_eq_some_iff.1 hk).1
      simp only [Env.cell, h4, g1]
      rw [Int.toNat_natCast, ← g2]
      rw [List.getElem?_toArray, List.getElem?_append_right (by omega), show 0 + p.length + k - p.length = k by omega, List.getElem?_append_left hlt]; exact hk
    refine gx_ ?_
    refine WC.condT rfl (by first | rfl | exact decide_eq_true (by omega) | (simp; (first | done | fail)) | (simp; omega)) ?_
    refine gx_ ?_
    refine WL.ldRA (l := [.int .u32 (x.attr : Int), .iface t w, .int .i64 (formClass x.form x.attr vers)]) tab_ok rfl rfl rfl (fun k v hk => .inl (hcell k v hk)) rfl rfl ?_
    refine gx_ ?_
    (refine WL.alloc tab_ok rfl rfl ?_; intro b6)
    refine gx_ ?_
    by_cases hxa : x.attr = a
    · refine WC.condT rfl (beq_iff_eq.2 (by omega)) ?_
      refine gx_ ?_
      refine WE.drop (b := b6) pk_ ?_
      refine end_1 rfl rfl (Env.le.rfl' _) ⟨rfl, rfl, ?_⟩
      rw [hfd, hdr, List.find?_cons, show isA a x = true from beq_iff_eq.2 hxa]
      exact ⟨pf, _, t, w, rfl, hcell 1 _ rfl, hcell 2 _ rfl, g4⟩
    · refine WC.condF rfl (beq_eq_false_iff_ne.2 (by omega)) ?_
      refine gx_ ?_
      have hwi : IntKind.i64.wrap ((i : Int) + 1) = (i : Int) + 1 := w_i64 (by omega) (by omega)
      refine WE.again ⟨i + 1, rfl, rfl, rfl, rfl, hlt, ?_⟩ (by omega) ⟨rfl, rfl, rfl, rfl, congrArg (fun z => some (Value.int .i64 z)) hwi, trivial⟩ sm_
      rw [hfd, hdr, List.find?_cons, show isA a x = false from beq_eq_false_iff_ne.2 hxa]
theorem val_ok {Γ : Env} {H : List Blk} {pe off tag : Nat} {ch : Bool} {its : List Itm} {vers : Int} (h : EntR Γ pe off tag ch its vers) (a : Nat) (hn : its.length < 2147483648) :
   Spc Tryz.prog 62 #[.pointer (some ⟨pe, 0, none⟩), .int .u32 (a : Int)] Γ H (fun v Γ' H' => Γ = Γ' ∧ H = H' ∧
     match its.find? (isA a) with
     | none => v = .nilIface
     | some x => ∃ t w, v = .iface t w ∧ FVal Γ x.fv (.iface t w)) := by
  refine Spc.body2 Tryz.func62 rfl Tryz.ntmps62 rfl ?_
  refine gx_ ?_
  refine WL.call rfl Tryz.call63 rfl rfl (by exact (attrField_ok h a hn)) ?_
  rintro v _ _ - ⟨rfl, rfl, hv⟩
  cases hf : its.find? (isA a) with
  | none =>
    rw [hf] at hv
    simp only at hv
    subst hv
    refine gx_ ?_
    exact end_1 rfl rfl (Env.le.rfl' _) ⟨rfl, rfl, rfl⟩
  | some x =>
    rw [hf] at hv
    obtain ⟨pf, o, t, w, rfl, h1, h2, h3⟩ := hv
    refine gx_ ?_
    exact end_1 rfl rfl (Env.le.rfl' _) ⟨rfl, rfl, t, w, rfl, h3⟩
end Go.Proofs.YtdplhbmoidepgaaGreatDoor
namespace Go.Proofs.YtdplhbmoidepgaaGreatDoor
open Go Go.Sl
set_option maxRecDepth 10000
set_option maxHeartbeats 40000000

/-- A unit's cells, with or without bases. -/
abbrev uqc (base off1 : Nat) (d : Value) (r : Nat) (u5 : Option Addr) (size vers : Nat) (wide : Bool) (q : List Value) : List Value :=
  .int .u32 (base : Int) :: .int .u32 (off1 : Int) :: d :: .map (some r) :: .pointer u5 :: .int .i64 (size : Int) :: .int .i64 (vers : Int) :: .bool wide :: .int .u8 (if 5 ≤ vers then 1 else 0) :: q
def UQ (Γ : Env) (base : Nat) (u : PU) (cs : List Value) : Prop :=
  ∃ d r es c u5, cs = uqc base (base + lsz u.wide + hsz u) d r u5 u.size u.vers u.wide [] ∧ Byt Γ d u.body ∧ Γ.imm r = some (.map (es : List MapEntry).toArray c) ∧ AbEnts Γ u.vers u.abs es
def UQs (Γ : Env) (big : Bool) : Nat → List PU → List Value → Prop
  | _, [], cs => cs = []
  | b, u :: us, cs => ∃ c1 c2, cs = c1 ++ c2 ∧ UQ Γ b u c1 ∧ UQs Γ big (b + (puB big u).length) us c2
theorem UC.uq {Γ : Env} {big : Bool} {b : Nat} {u : PU} {cs : List Value} (h : UC Γ big b u cs) : UQ Γ b u cs := by
  obtain ⟨d, r, es, c, h1, h2, h3, h4⟩ := h
  exact ⟨d, r, es, c, none, h1, h2, h3, h4⟩
theorem UCs.uq {Γ : Env} {big : Bool} : ∀ {us : List PU} {b : Nat} {cs : List Value}, UCs Γ big b us cs → UQs Γ big b us cs
  | [], _, _, h => h
  | _ :: _, _, _, ⟨c1, c2, h1, h2, h3⟩ => ⟨c1, c2, h1, h2.uq, UCs.uq h3⟩
theorem UQ.mono {Γ Γ' : Env} (hle : Γ.le Γ') {b : Nat} {u : PU} {cs : List Value} (h : UQ Γ b u cs) : UQ Γ' b u cs := by
  obtain ⟨d, r, es, c, u5, h1, h2, h3, h4⟩ := h
  exact ⟨d, r, es, c, u5, h1, h2.mono hle, hle.imm _ _ h3, h4.mono hle⟩
theorem UQs.mono {Γ Γ' : Env} (hle : Γ.le Γ') {big : Bool} : ∀ {us : List PU} {b : Nat} {cs : List Value}, UQs Γ big b us cs → UQs Γ' big b us cs
  | [], _, _, h => h
  | _ :: _, _, _, ⟨c1, c2, h1, h2, h3⟩ => ⟨c1, c2, h1, h2.mono hle, UQs.mono hle h3⟩
theorem UQ.length {Γ : Env} {b : Nat} {u : PU} {cs : List Value} (h : UQ Γ b u cs) : cs.length = 9 := by
  obtain ⟨d, r, es, c, u5, rfl, -⟩ := h; rfl
/-- A unit's cells among those of all, and others in their place. -/
theorem UQs.get {Γ : Env} {big : Bool} : ∀ {us : List PU} {b : Nat} {cs : List Value} {i : Nat} {u : PU}, UQs Γ big b us cs → us[i]? = some u → ∃ p c q, cs = p ++ (c ++ q) ∧ p.length = i * 9 ∧ UQ Γ (b + (pusB big (us.take i)).length) u c ∧
    ∀ {Γ' : Env} {c' : List Value}, Γ.le Γ' → UQ Γ' (b + (pusB big (us.take i)).length) u c' → UQs Γ' big b us (p ++ (c' ++ q))
  | [], _, _, _, _, _, e => by simp at e
  | x :: us, b, cs, 0, u, ⟨c1, c2, h1, h2, h3⟩, e => by
    injection e with e; subst e
    exact ⟨[], c1, c2, h1, rfl, h2, fun {Γ' c'} hle h => ⟨c', c2, rfl, h, h3.mono hle⟩⟩
  | x :: us, b, cs, i + 1, u, ⟨c1, c2, h1, h2, h3⟩, e => by
    obtain ⟨p, c, q, g1, g2, g3, g4⟩ := UQs.get h3 (i := i) (by simpa using e)
    have hl : b + (pusB big ((x :: us).take (i + 1))).length = b + (puB big x).length + (pusB big (us.take i)).length := by
      rw [List.take_succ_cons, pusB, List.length_append, ← Nat.add_assoc]
    refine ⟨c1 ++ p, c, q, by rw [h1, g1, List.append_assoc], by rw [List.length_append, h2.length, g2]; omega, by rw [hl]; exact g3, fun hle h => ?_⟩
    rw [hl] at h
    exact ⟨c1, p ++ (_ ++ q), by rw [List.append_assoc], h2.mono hle, g4 hle h⟩

/-- An entry as it stands in a unit. -/
structure Die (c : Ctx) (abs : List Abb) (a : Abb) (its : List Itm) : Prop where
  mem : a ∈ abs
  ok : OkA a
  fs : a.fs = its.map Itm.abF
  low : ∀ x ∈ its, x.attr < 114
  okI : ∀ x ∈ its, OkItm c x
  few : its.length < 2147483648
structure Secs (Γ : Env) (F : List Blk) (pd : Nat) (c : Ctx) : Prop where
  str : ∃ v, Rd Γ F pd 7 v ∧ Byt Γ v c.str
  lin : ∃ v, Rd Γ F pd 9 v ∧ Byt Γ v c.lin
  ord : Rd Γ F pd 14 (.bool c.big)
  sl : c.str.length < 2147483648
  ll : c.lin.length < 2147483648
theorem Secs.mono {Γ Γ' : Env} (hle : Γ.le Γ') {F : List Blk} {pd : Nat} {c : Ctx} (h : Secs Γ F pd c) : Secs Γ' F pd c := by
  obtain ⟨⟨v, h1, h2⟩, ⟨w, h3, h4⟩, h5, h6, h7⟩ := h
  exact ⟨⟨v, h1.mono hle, h2.mono hle⟩, ⟨w, h3.mono hle, h4.mono hle⟩, h5.mono hle, h6, h7⟩
theorem Secs.cons {Γ : Env} {F : List Blk} {x : Blk} {pd : Nat} {c : Ctx} (h : Secs Γ F pd c) : Secs Γ (x :: F) pd c := by
  obtain ⟨⟨v, h1, h2⟩, ⟨w, h3, h4⟩, h5, h6, h7⟩ := h
  exact ⟨⟨v, h1.cons, h2⟩, ⟨w, h3.cons, h4⟩, h5.cons, h6, h7⟩
theorem find_none {its : List Itm} (h : ∀ x ∈ its, x.attr < 114) {a : Nat} (ha : 114 ≤ a) : its.find? (isA a) = none := by
  rw [List.find?_eq_none]
  intro x hx
  have := h x hx
  simp only [isA, beq_iff_eq]; omega

theorem collectD_ok {Γ : Env} {H : List Blk} {pu ou pd r : Nat} {p5 : Addr} {c : Ctx} {a : Abb} {its : List Itm} {abs : List Abb} {es : List MapEntry} {cm off1 : Nat} {dU : Value} {l : List UInt8}
   (hG : Glob Γ) (hS : Secs Γ H pd c) (hcs : c.size = 4 ∨ c.size = 8)
   (h0 : Rd Γ H pu (ou + 0) (.int .u32 (c.base : Int))) (h1 : Rd Γ H pu (ou + 1) (.int .u32 (off1 : Int))) (h2 : Rd Γ H pu (ou + 2) dU) (h3 : Rd Γ H pu (ou + 3) (.map (some r))) (h4 : Rd Γ H pu (ou + 4) (.pointer (some p5)))
   (h5 : Rd Γ H pu (ou + 5) (.int .i64 (c.size : Int))) (h6 : Rd Γ H pu (ou + 6) (.int .i64 c.vers)) (h7 : Rd Γ H pu (ou + 7) (.bool c.wide))
   (hdU : Byt Γ dU (ulebL a.code ++ (itexts its ++ l))) (hr : Γ.imm r = some (.map es.toArray cm)) (hes : AbEnts Γ c.vers abs es) (hdis : abs.Pairwise (fun a b => a.code ≠ b.code))
   (hD : Die c abs a its) (hsz : off1 + (ulebL a.code).length + (itexts its).length + l.length ≤ 2147483648) :
   Spc Tryz.prog 95 #[.pointer (some ⟨pd, 0, none⟩), .pointer (some ⟨pu, ou, none⟩)] Γ H (fun v Γ' H' => v = .nilIface ∧ H' = H) := by
  obtain ⟨⟨vs, hs1, hs2⟩, ⟨vl, hl1, hl2⟩, ho, hsl, hll⟩ := hS
  have hdU' := hdU
  obtain ⟨aU, cU, rfl, -, -⟩ := hdU'
  refine Spc.body2 Tryz.func95 rfl Tryz.ntmps95 rfl ?_
  refine gx_ ?_
  refine WC.cutM (fun R' Γ' H' => ∃ b5, R' = [(0, .pointer (some ⟨pd, 0, none⟩)), (1, .pointer (some ⟨pu, ou, none⟩)), (5, .pointer (some ⟨b5, 0, none⟩))] ∧ Γ = Γ' ∧ H' = (b5, cel (bufc (.pointer (some ⟨pd, 0, none⟩)) (.bool c.big) (ufmt pu ou) (.string sInfo) off1 (.slice aU (ulebL a.code ++ (itexts its ++ l)).length cU) .nilIface []) 148) :: H) ?_ ?_
  · refine WC.draw 13 (.take 0 (.take 1 (.take 2 (.take 3 (.take 4 (.take 5 (.take 6 (.take 7 (.take 8 (.take 9 (.take 10 (.two 11 12 (.one 12 (.one 13 .done)) (.one 11 (.one 13 .done)))))))))))))) (H) mixed (by (repeat (first | exact trivial | refine ⟨⟨_, pk_⟩, ?_⟩ | exact subH_self _ | apply subH_cons)); (first | done | fail)) (by decide +kernel) ?_
    refine dx_ ?_
    refine WD.two rfl rfl ?_ ?_
    · refine dx_ ?_
      refine WL.call rfl Tryz.call68 rfl rfl (by exact (makeBuf_ok ho)) ?_
      rintro _ _ _ - ⟨rfl, rfl, rfl⟩
      refine dx_ ?_
      (refine WL.alloc tab_ok rfl rfl ?_; intro b5)
      refine dx_ ?_
      refine gx_ ?_
      exact WE.mid ⟨b5, rfl, rfl, rfl⟩ sr_ sm_
    · refine dx_ ?_
      (refine WL.alloc tab_ok rfl rfl ?_; intro b5)
      refine dx_ ?_
      refine WL.call rfl Tryz.call68 rfl rfl (by exact (makeBuf_ok (Rd.cons ho))) ?_
      rintro _ _ _ - ⟨rfl, rfl, rfl⟩
      refine dx_ ?_
      refine gx_ ?_
      exact WE.mid ⟨b5, rfl, rfl, rfl⟩ sr_ sm_
  rintro R' Γ' H' ⟨b5, rfl, rfl, rfl⟩
  refine gx_ ?_
  refine WL.call rfl Tryz.call86 rfl rfl (by exact (entry_ok hG pk_ hdU h0 h3 h5 h6 h7 hr hes hdis hD.mem hD.ok hD.fs hD.okI hcs hs1 hs2 hl1 hl2 ho hsl hll hsz hD.few)) ?_
  rintro _ Γ1 _ hle ⟨pe, d', rfl, hE, hd', rfl⟩
  refine gx_ ?_
  refine WL.call rfl Tryz.call62 rfl rfl (by exact (val_ok hE 115 hD.few)) ?_
  rintro v _ _ - ⟨rfl, rfl, hv⟩
  rw [find_none hD.low (by decide)] at hv
  simp only at hv
  subst hv
  refine gx_ ?_
  refine WL.call rfl Tryz.call62 rfl rfl (by exact (val_ok hE 114 hD.few)) ?_
  rintro v _ _ - ⟨rfl, rfl, hv⟩
  rw [find_none hD.low (by decide)] at hv
  simp only at hv
  subst hv
  refine gx_ ?_
  refine WL.call rfl Tryz.call62 rfl rfl (by exact (val_ok hE 116 hD.few)) ?_
  rintro v _ _ - ⟨rfl, rfl, hv⟩
  rw [find_none hD.low (by decide)] at hv
  simp only at hv
  subst hv
  refine gx_ ?_
  refine WL.call rfl Tryz.call62 rfl rfl (by exact (val_ok hE 140 hD.few)) ?_
  rintro v _ _ - ⟨rfl, rfl, hv⟩
  rw [find_none hD.low (by decide)] at hv
  simp only at hv
  subst hv
  refine gx_ ?_
  refine WE.drop (b := b5) pk_ ?_
  exact end_1 rfl rfl hle ⟨rfl, rfl⟩

theorem Rd.pre {Γ : Env} {H F : List Blk} {b o k : Nat} {tt : TypeId} {fz : Nat × Nat} {pre l : List Value} {v : Value} (hp : Pick H b (celF (pre ++ l) tt fz) F) (hv : lget l k = some v) (ho : o = pre.length + k) : Rd Γ H b o v :=
  .inr ⟨_, _, _, _, hp, by
    have h := (lget_pre pre l ho).trans hv
    rw [lget_eq] at h; simpa using h⟩
/-- What a unit begins with, in its context. -/
structure Top (Γ : Env) (c : Ctx) (vers : Nat) (abs : List Abb) (off1 : Nat) (d : Value) (r : Nat) : Prop where
  vn : c.vers = (vers : Int)
  size : c.size = 4 ∨ c.size = 8
  dist : abs.Pairwise (fun a b => a.code ≠ b.code)
  map : ∃ es cm, Γ.imm r = some (.map (es : List MapEntry).toArray cm) ∧ AbEnts Γ vers abs es
  ent : ∃ a its l, Byt Γ d (ulebL a.code ++ (itexts its ++ l)) ∧ Die c abs a its ∧ off1 + (ulebL a.code).length + (itexts its).length + l.length ≤ 2147483648
theorem Top.mono {Γ Γ' : Env} (hle : Γ.le Γ') {c : Ctx} {vers : Nat} {abs : List Abb} {off1 : Nat} {d : Value} {r : Nat} (h : Top Γ c vers abs off1 d r) : Top Γ' c vers abs off1 d r := by
  obtain ⟨h0, h1, h2, ⟨es, cm, h3, h4⟩, a, its, l, h5, h6, h7⟩ := h
  exact ⟨h0, h1, h2, ⟨es, cm, hle.imm _ _ h3, h4.mono hle⟩, a, its, l, h5.mono hle, h6, h7⟩
theorem collectR_ok {Γ : Env} {H F : List Blk} {pr pu ou pd r : Nat} {u5 : Option Addr} {c : Ctx} {vers off1 : Nat} {abs : List Abb} {d : Value} {pre q : List Value} {T : TypeId}
   (hG : Glob Γ) (hp : Pick H pu (cel (pre ++ uqc c.base off1 d r u5 c.size vers c.wide q) T) F) (hou : ou = pre.length) (hS : Secs Γ F pd c) (hrd : Rd Γ F pr 7 (.pointer (some ⟨pd, 0, none⟩)))
   (hT : Top Γ c vers abs off1 d r) :
   Spc Tryz.prog 69 #[.pointer (some ⟨pr, 0, none⟩), .pointer (some ⟨pu, ou, none⟩)] Γ H (fun v Γ' H' => v = .tuple #[] ∧ ∃ u5, H' = (pu, cel (pre ++ uqc c.base off1 d r u5 c.size vers c.wide q) T) :: F) := by
  refine Spc.perm ?_ hp.perm
  obtain ⟨hv, hcs, hdis, ⟨es, cm, hr, hes⟩, a, its, l, hb, hD, hsz⟩ := hT
  have hb' := hb
  obtain ⟨aU, cU, rfl, -, -⟩ := hb'
  refine Spc.body2 Tryz.func69 rfl Tryz.ntmps69 rfl ?_
  refine gx_ ?_
  refine WL.ldPre (k := 6) tab_ok rfl rfl rfl pk_ rfl (by omega) rfl ?_
  refine gx_ ?_
  by_cases h5 : vers < 5
  · rw [show decide ((vers : Int) < 5) = true from decide_eq_true (by omega)]
    refine gx_ ?_
    exact end_0r rfl (Env.le.rfl' _) ⟨rfl, u5, rfl⟩
  · rw [show decide ((vers : Int) < 5) = false from decide_eq_false (by omega)]
    refine gx_ ?_
    refine WL.ldPre (k := 4) tab_ok rfl rfl rfl pk_ rfl (by omega) rfl ?_
    cases u5 with
    | some x =>
      refine gx_ ?_
      exact end_0r rfl (Env.le.rfl' _) ⟨rfl, some x, rfl⟩
    | none =>
      refine gx_ ?_
      (refine WL.alloc tab_ok rfl rfl ?_; intro p5)
      refine gx_ ?_
      refine WL.stPre (k := 4) tab_ok rfl rfl rfl pk_ (by (repeat (first | apply Spl.nil | apply Spl.put | apply Spl.skip)); (first | done | fail)) (by omega) rfl rfl ?_
      refine gx_ ?_
      refine WL.call rfl Tryz.call95 rfl rfl (by exact (collectD_ok (p5 := ⟨p5, 0, none⟩) hG hS.cons.cons hcs (Rd.pre (k := 0) pk_ rfl (by omega)) (Rd.pre (k := 1) pk_ rfl (by omega)) (Rd.pre (k := 2) pk_ rfl (by omega)) (Rd.pre (k := 3) pk_ rfl (by omega)) (Rd.pre (k := 4) pk_ rfl (by omega)) (Rd.pre (k := 5) pk_ rfl (by omega)) (by rw [hv]; exact Rd.pre (k := 6) pk_ rfl (by omega)) (Rd.pre (k := 7) pk_ rfl (by omega)) hb hr (by rw [hv]; exact hes) hdis hD hsz)) ?_
      rintro _ Γ1 _ hle ⟨rfl, rfl⟩
      refine gx_ ?_
      refine WE.drop (b := p5) pk_ ?_
      exact end_0 rfl hle ⟨rfl, some ⟨p5, 0, none⟩, rfl⟩
end Go.Proofs.YtdplhbmoidepgaaGreatDoor
namespace Go.Proofs.YtdplhbmoidepgaaGreatDoor
open Go Go.Sl
set_option maxRecDepth 10000
set_option maxHeartbeats 40000000

/-- A reader's cells behind its buffer. -/
abbrev rdp (pd : Nat) (err : Value) (un : Int) (lu lc : Bool) (ls cu : Value) : List Value := [.pointer (some ⟨pd, 0, none⟩), err, .int .i64 un, .bool lu, .bool lc, ls, cu]
theorem seek0_ok {Γ : Env} {H F F1 : List Blk} {pr pu pd r n : Nat} {u5 : Option Addr} {c : Ctx} {vers off1 : Nat} {abs : List Abb} {d : Value} {q : List Value} {x0 x1 x2 x3 x4 x5 x6 err ls cu : Value} {un : Int} {lu lc : Bool}
   (hG : Glob Γ) (hp : Pick H pr (cel (x0 :: x1 :: x2 :: x3 :: x4 :: x5 :: x6 :: rdp pd err un lu lc ls cu) 150) F1) (hq : Pick F1 pu (cel (uqc c.base off1 d r u5 c.size vers c.wide q) 178) F) (hS : Secs Γ F pd c)
   (h17 : Rd Γ F pd 17 (.slice (some ⟨pu, 0, none⟩) n n)) (hn : 0 < n) (hT : Top Γ c vers abs off1 d r) :
   Spc Tryz.prog 60 #[.pointer (some ⟨pr, 0, none⟩), .int .u32 0] Γ H (fun v Γ' H' => v = .tuple #[] ∧ ∃ u5, H' = (pr, cel (bufc (.pointer (some ⟨pd, 0, none⟩)) (.bool c.big) (ufmt pu 0) (.string sInfo) off1 d .nilIface (rdp pd .nilIface 0 lu false ls (.pointer none))) 150) :: (pu, cel (uqc c.base off1 d r u5 c.size vers c.wide q) 178) :: F) := by
  refine Spc.perm ?_ (hp.perm.trans (List.Perm.cons _ hq.perm))
  obtain ⟨a, its, l, hb, -, -⟩ := hT.ent
  obtain ⟨aU, cU, rfl, -, -⟩ := hb
  refine Spc.body2 Tryz.func60 rfl Tryz.ntmps60 rfl ?_
  refine gx_ ?_
  refine WC.condF rfl (by first | rfl | exact decide_eq_false (by omega) | (simp; (first | done | fail)) | (simp; omega)) ?_
  refine gx_ ?_
  refine WC.draw 18 (.take 0 (.take 1 (.take 2 (.take 3 (.take 4 (.take 5 (.take 6 (.take 7 (.take 8 (.take 9 (.take 10 (.take 11 (.take 12 (.take 13 (.take 14 (.one 15 (.one 16 (.take 17 (.one 18 .done))))))))))))))))))) ((pr, _) :: (pu, _) :: F) mixed (by (repeat (first | exact trivial | refine ⟨⟨_, pk_⟩, ?_⟩ | exact subH_self _ | apply subH_cons)); (first | done | fail)) (by decide +kernel) ?_
  refine dx_ ?_
  rw [show 0 + Int.toNat 0 * 9 = 0 from rfl]
  have ho := hS.ord
  refine WL.call rfl Tryz.call68 rfl rfl (by exact (makeBuf_ok (by (repeat (first | assumption | apply Rd.cons)); (first | done | fail)))) ?_
  rintro _ _ _ - ⟨rfl, rfl, rfl⟩
  refine dx_ ?_
  refine gx_ ?_
  refine WL.call rfl Tryz.call69 rfl rfl (by exact (collectR_ok (pre := []) hG pk_ rfl hS.cons (.inr ⟨_, _, _, _, Pick.here, rfl⟩) hT)) ?_
  rintro _ Γ1 _ hle ⟨rfl, u5', rfl⟩
  rw [List.nil_append]
  refine gx_ ?_
  exact end_0r rfl hle ⟨rfl, u5', rfl⟩
theorem reader_ok {Γ : Env} {H F : List Blk} {pu pd r n : Nat} {u5 : Option Addr} {c : Ctx} {vers off1 : Nat} {abs : List Abb} {d : Value} {q : List Value}
   (hG : Glob Γ) (hq : Pick H pu (cel (uqc c.base off1 d r u5 c.size vers c.wide q) 178) F) (hS : Secs Γ F pd c)
   (h17 : Rd Γ F pd 17 (.slice (some ⟨pu, 0, none⟩) n n)) (hn : 0 < n) (hT : Top Γ c vers abs off1 d r) :
   Spc Tryz.prog 33 #[.pointer (some ⟨pd, 0, none⟩)] Γ H (fun v Γ' H' => ∃ pr u5, v = .pointer (some ⟨pr, 0, none⟩) ∧ H' = (pr, cel (bufc (.pointer (some ⟨pd, 0, none⟩)) (.bool c.big) (ufmt pu 0) (.string sInfo) off1 d .nilIface (rdp pd .nilIface 0 false false (.int .u32 0) (.pointer none))) 150) :: (pu, cel (uqc c.base off1 d r u5 c.size vers c.wide q) 178) :: F) := by
  refine Spc.body1 Tryz.func33 rfl Tryz.ntmps33 rfl ?_
  refine gx_ ?_
  (refine WL.box rfl spi_ rfl ?_; intro pr)
  refine gx_ ?_
  refine WL.call rfl Tryz.call60 rfl rfl (by exact (seek0_ok hG Pick.here hq hS h17 hn hT)) ?_
  rintro _ Γ1 _ hle ⟨rfl, u5', rfl⟩
  refine gx_ ?_
  exact end_1 rfl rfl hle ⟨pr, u5', rfl, rfl⟩
theorem readerOrder_ok {Γ : Env} {H F : List Blk} {pr : Nat} {big : Bool} {x0 : Value} {l : List Value} {T : TypeId} (hp : Pick H pr (cel (x0 :: .bool big :: l) T) F) :
   Spc Tryz.prog 34 #[.pointer (some ⟨pr, 0, none⟩)] Γ H (fun v Γ' H' => v = .agg #[.bool big] ∧ Γ = Γ' ∧ H' = (pr, cel (x0 :: .bool big :: l) T) :: F) := by
  refine Spc.perm ?_ hp.perm
  refine Spc.body1 Tryz.func34 rfl Tryz.ntmps34 rfl ?_
  refine gx_ ?_
  (refine WL.alloc tab_ok rfl rfl ?_; intro b2)
  refine gx_ ?_
  exact end_c tab_ok rfl rfl rfl rfl Pick.here rfl (Env.le.rfl' _) ⟨rfl, rfl, rfl⟩
end Go.Proofs.YtdplhbmoidepgaaGreatDoor
namespace Go.Proofs.YtdplhbmoidepgaaGreatDoor
open Go Go.Sl
set_option maxRecDepth 10000
set_option maxHeartbeats 40000000

theorem copied_ok {Γ : Env} {H : List Blk} {v : Value} {l : List UInt8} (hv : Byt Γ v l) (hl : l.length < 2147483648) :
   Spc Tryz.prog 57 #[v] Γ H (fun v Γ' H' => Byt Γ' v l ∧ H' = H) := by
  refine Spc.body1 Tryz.func57 rfl Tryz.ntmps57 rfl ?_
  refine gx_ ?_
  refine WL.append (v := .slice none 0 0) tab_ok rfl rfl rfl rfl rfl rfl rfl rfl Ow.nil (Hs := []) (F := H) (Tk.here (Hs := []) (F := H)) (hv.src tab_ok rfl) (by omega) (by omega) (fun v' Hs' ho => ?_)
  rw [List.nil_append, Nat.zero_add] at ho
  refine WL.keep ho Tk.here (fun Γ' hle him => ?_)
  refine gx_ ?_
  exact end_1 rfl rfl hle ⟨him.byt, rfl⟩

/-- The cells of a file's data. -/
abbrev dcs (dA dI dL dR dS ad ls so rl : Value) (rc r2 r3 : Nat) (b1 b2 : Bool) (un : Value) : List Value :=
  [dA, .slice none 0 0, .slice none 0 0, dI, dL, .slice none 0 0, dR, dS, ad, ls, so, rl, .map (some rc), .bool b1, .bool b2, .map (some r2), .map (some r3), un]
abbrev nls : Value := .slice none 0 0
abbrev sLineStr : ByteArray := ⟨#[46, 100, 101, 98, 117, 103, 95, 108, 105, 110, 101, 95, 115, 116, 114]⟩
abbrev sRngLists : ByteArray := ⟨#[46, 100, 101, 98, 117, 103, 95, 114, 110, 103, 108, 105, 115, 116, 115]⟩
theorem addLine_ok {Γ : Env} {H F : List Blk} {pd : Nat} {dA dI dL dR dS ad ls so rl un : Value} {rc r2 r3 : Nat} {b1 b2 : Bool} {v : Value} {l : List UInt8} (hp : Pick H pd (cel (dcs dA dI dL dR dS ad ls so rl rc r2 r3 b1 b2 un) 173) F) (hv : Byt Γ v l) :
   Spc Tryz.prog 58 #[.pointer (some ⟨pd, 0, none⟩), .string sLineStr, v] Γ H (fun w Γ' H' => w = .nilIface ∧ Γ = Γ' ∧ H' = (pd, cel (dcs dA dI dL dR dS ad v so rl rc r2 r3 b1 b2 un) 173) :: F) := by
  obtain ⟨av, cv, rfl, -, -⟩ := hv
  refine Spc.perm ?_ hp.perm
  refine Spc.body3 Tryz.func58 rfl Tryz.ntmps58 rfl ?_
  refine gx_ ?_
  refine WC.condF rfl (by decide +kernel) ?_
  refine gx_ ?_
  refine WC.condT rfl (by decide +kernel) ?_
  refine gx_ ?_
  exact end_1 rfl rfl (Env.le.rfl' _) ⟨rfl, rfl, rfl⟩
theorem addRng_ok {Γ : Env} {H F : List Blk} {pd : Nat} {dA dI dL dR dS ad ls so rl un : Value} {rc r2 r3 : Nat} {b1 b2 : Bool} {v : Value} {l : List UInt8} (hp : Pick H pd (cel (dcs dA dI dL dR dS ad ls so rl rc r2 r3 b1 b2 un) 173) F) (hv : Byt Γ v l) :
   Spc Tryz.prog 58 #[.pointer (some ⟨pd, 0, none⟩), .string sRngLists, v] Γ H (fun w Γ' H' => w = .nilIface ∧ Γ = Γ' ∧ H' = (pd, cel (dcs dA dI dL dR dS ad ls so v rc r2 r3 b1 b2 un) 173) :: F) := by
  obtain ⟨av, cv, rfl, -, -⟩ := hv
  refine Spc.perm ?_ hp.perm
  refine Spc.body3 Tryz.func58 rfl Tryz.ntmps58 rfl ?_
  refine gx_ ?_
  refine WC.condF rfl (by decide +kernel) ?_
  refine gx_ ?_
  refine WC.condF rfl (by decide +kernel) ?_
  refine gx_ ?_
  refine WC.condF rfl (by decide +kernel) ?_
  refine gx_ ?_
  refine WC.condT rfl (by decide +kernel) ?_
  refine gx_ ?_
  exact end_1 rfl rfl (Env.le.rfl' _) ⟨rfl, rfl, rfl⟩

theorem new_ok {Γ : Env} {H : List Blk} {big : Bool} {dA dI dL dR dS : Value} {ab ln rg sr : List UInt8} {us : List PU}
   (hG : Glob Γ) (hA : Byt Γ dA ab) (hI : Byt Γ dI (pusB big us)) (hL : Byt Γ dL ln) (hR : Byt Γ dR rg) (hS : Byt Γ dS sr)
   (hok : ∀ u ∈ us, OkPU ab u) (hdis : us.Pairwise (fun a b => a.abo ≠ b.abo)) (hsa : ab.length < 2147483648) (hall : (pusB big us).length < 2147483648) (hn : us.length < 2147483648) (hn0 : 0 < us.length) :
   Spc Tryz.prog 56 #[dA, nls, nls, dI, dL, nls, dR, dS] Γ H (fun v Γ' H' => ∃ pd pu rc r2 r3 cs, v = .tuple #[.pointer (some ⟨pd, 0, none⟩), .nilIface] ∧ UQs Γ' big 0 us cs ∧
     H' = (pd, cel (dcs dA dI dL dR dS nls nls nls nls rc r2 r3 big big (.slice (some ⟨pu, 0, none⟩) us.length us.length)) 173) :: (pu, cel cs 178) :: H) := by
  have hA0 := hA
  obtain ⟨aA, cA, rfl, hA1, hA2⟩ := hA
  obtain ⟨aL, cL, rfl, -, -⟩ := hL
  obtain ⟨aR, cR, rfl, -, -⟩ := hR
  obtain ⟨aS, cS, rfl, -, -⟩ := hS
  obtain ⟨u0, hu0⟩ : ∃ u, us[0]? = some u := ⟨_, List.getElem?_eq_getElem hn0⟩
  have hou := hok u0 (List.mem_of_getElem? hu0)
  have hI' := hI
  obtain ⟨aI, cI, rfl, hI1, hI2⟩ := hI
  refine Spc.body8 Tryz.func56 rfl Tryz.ntmps56 rfl ?_
  refine gx_ ?_
  (refine WL.makeMap rfl ?_; intro rc)
  refine gx_ ?_
  (refine WL.makeMap rfl ?_; intro r2)
  refine gx_ ?_
  (refine WL.makeMap rfl ?_; intro r3)
  refine gx_ ?_
  (refine WL.box rfl spi_ rfl ?_; intro pd)
  refine gx_ ?_
  have hsp := pusB_split big us 0
  have hdr0 := pusB_drop (big := big) hu0
  rw [List.drop_zero, puB, List.append_assoc, List.append_assoc] at hdr0
  generalize us.drop (0 + 1) = us1 at hdr0
  have hpl : (pusB big us).length = lsz u0.wide + hsz u0 + u0.body.length + (pusB big us1).length := by
    rw [hdr0, List.length_append, List.length_append, List.length_append, lenB_length, hdB_length]; omega
  have hl4 := lsz_bd u0.wide
  have hh3 : 3 ≤ hsz u0 := by have := osz_bd u0.wide; unfold hsz; split <;> omega
  obtain ⟨tl, htl⟩ : ∃ tl, hdB big u0 = fix u0.vers 2 big ++ tl := ⟨_, rfl⟩
  rw [htl, List.append_assoc] at hdr0
  have hv2 := hou.v2
  have hv5 := hou.v5
  obtain ⟨y0, y1, hy, hyt, hyf⟩ : ∃ y0 y1, fix u0.vers 2 big = [y0, y1] ∧ (big = true → y0.toNat = 0 ∧ y1.toNat = u0.vers) ∧ (big = false → y0.toNat = u0.vers ∧ y1.toNat = 0) := by
    have e0 : (UInt8.ofNat (u0.vers % 256)).toNat = u0.vers := by rw [u8_of (by omega)]; omega
    have e1 : (UInt8.ofNat (u0.vers / 256 % 256)).toNat = 0 := by rw [u8_of (by omega)]; omega
    cases big with
    | true => exact ⟨_, _, rfl, fun _ => ⟨e1, e0⟩, fun h => (by cases h)⟩
    | false => exact ⟨_, _, rfl, fun h => (by cases h), fun _ => ⟨e0, e1⟩⟩
  rw [hy] at hdr0
  obtain ⟨bI, oI, rfl, hcell⟩ : ∃ bI oI, aI = some ⟨bI, oI, none⟩ ∧ ∀ i y, (pusB big us)[i]? = some y → Γ.cell bI (oI + i) = some (.int .u8 (y.toNat : Int)) := by
    cases h : pusB big us with
    | nil => rw [h] at hpl; simp at hpl; omega
    | cons x xs => rw [h] at hI2; exact hI2.cons
  refine WC.condF rfl (decide_eq_false (by omega)) ?_
  cases hwd : u0.wide
  · rw [hwd] at hdr0 hpl
    obtain ⟨x0, x1, x2, x3, hx⟩ := list4 (fix_length (hsz u0 + u0.body.length) 4 big)
    have hbad : ¬ (x0.toNat = 255 ∧ x1.toNat = 255 ∧ x2.toNat = 255 ∧ x3.toNat = 255) := fun ⟨e0, e1, e2, e3⟩ => by
      have hh := num_fix (n := hsz u0 + u0.body.length) (s := 4) (Nat.lt_of_lt_of_le (show hsz u0 + u0.body.length < 2147483648 by omega) (by decide)) big
      rw [hx] at hh
      cases big <;> simp [num, le, e0, e1, e2, e3] at hh <;> omega
    have hlb : lenB false (hsz u0 + u0.body.length) big = [x0, x1, x2, x3] := hx
    rw [hlb] at hdr0
    have c0 : Γ.cell bI (oI + 0) = some (.int .u8 (x0.toNat : Int)) := hcell 0 _ (by rw [hdr0]; rfl)
    have c1 : Γ.cell bI (oI + 1) = some (.int .u8 (x1.toNat : Int)) := hcell 1 _ (by rw [hdr0]; rfl)
    have c2 : Γ.cell bI (oI + 2) = some (.int .u8 (x2.toNat : Int)) := hcell 2 _ (by rw [hdr0]; rfl)
    have c3 : Γ.cell bI (oI + 3) = some (.int .u8 (x3.toNat : Int)) := hcell 3 _ (by rw [hdr0]; rfl)
    have c4 : Γ.cell bI (oI + 4) = some (.int .u8 (y0.toNat : Int)) := hcell 4 _ (by rw [hdr0]; rfl)
    have c5 : Γ.cell bI (oI + 5) = some (.int .u8 (y1.toNat : Int)) := hcell 5 _ (by rw [hdr0]; rfl)
    have hw5 : IntKind.i64.wrap (4 + 1) = 5 := rfl
    have hl12 : lsz false = 4 := rfl
    clear hy hdr0 htl hx hlb hcell
    refine WC.skip ?_
    refine WE.then_ ?_
    refine WC.seqRun tab_ok rfl ?_
    refine WC.seq ?_
    refine WC.cutM (fun R' Γ' H' => R' = [(16, .pointer none), (17, .nilIface), (18, .pointer (some ⟨pd, 0, none⟩)), (19, .int .i64 4), (84, .bool false)] ∧ Γ = Γ' ∧ H' = (pd, cel (dcs (.slice aA ab.length cA) (.slice (some ⟨bI, oI, none⟩) (pusB big us).length cI) (.slice aL ln.length cL) (.slice aR rg.length cR) (.slice aS sr.length cS) nls nls nls nls rc r2 r3 false false nls) 173) :: (r3, .map #[] 0) :: (r2, .map #[] 0) :: (rc, .map #[] 0) :: H) ?_ ?_
    · refine gx_ ?_
      cases h0 : ((x0.toNat : Int) == 255)
      · refine gx_ ?_
        exact WE.mid ⟨rfl, rfl, rfl⟩ sr_ (fun _ h => h)
      refine gx_ ?_
      cases h1 : ((x1.toNat : Int) == 255)
      · refine gx_ ?_
        exact WE.mid ⟨rfl, rfl, rfl⟩ sr_ (fun _ h => h)
      refine gx_ ?_
      cases h2 : ((x2.toNat : Int) == 255)
      · refine gx_ ?_
        exact WE.mid ⟨rfl, rfl, rfl⟩ sr_ (fun _ h => h)
      refine gx_ ?_
      cases h3 : ((x3.toNat : Int) == 255)
      · refine gx_ ?_
        exact WE.mid ⟨rfl, rfl, rfl⟩ sr_ (fun _ h => h)
      have e0 := eq_of_beq h0
      have e1 := eq_of_beq h1
      have e2 := eq_of_beq h2
      have e3 := eq_of_beq h3
      exact absurd ⟨by omega, by omega, by omega, by omega⟩ hbad
    rintro R' Γ' H' ⟨rfl, rfl, rfl⟩
    refine gx_ ?_
    refine WC.draw 17 (.take 0 (.take 1 (.take 2 (.take 3 (.take 4 (.take 5 (.take 6 (.take 7 (.take 8 (.take 9 (.take 10 (.take 11 (.take 12 (.take 13 (.take 14 (.one 15 (.one 16 .done))))))))))))))))) ((pd, _) :: []) mixed (by (repeat (first | exact trivial | refine ⟨⟨_, pk_⟩, ?_⟩ | exact subH_self _ | apply subH_cons)); (first | done | fail)) (by decide +kernel) ?_
    refine dx_ ?_
    refine gx_ ?_
    cases big with
    | true =>
      have hy0 : y0.toNat = 0 := (hyt rfl).1
      have hy1 : y1.toNat = u0.vers := (hyt rfl).2
      rw [hy0, hy1]
      refine gx_ ?_
      rw [show ((u0.vers : Int) == 0) = false from beq_eq_false_iff_ne.2 (by omega)]
      refine gx_ ?_
      refine WL.call rfl Tryz.call82 rfl rfl (by exact (parseUnits_ok (rc := rc) hG pk_ hA0 hI' (.inr ⟨_, _, _, _, pk_, rfl⟩) (.inr ⟨_, _, _, _, pk_, rfl⟩) (.inr ⟨_, _, _, _, pk_, rfl⟩) (.inr ⟨_, _, _, _, pk_, rfl⟩) hok hdis hsa hall hn)) ?_
      rintro _ Γ1 _ hle ⟨pu, cs, es, ce, rfl, hcs, rfl⟩
      refine gx_ ?_
      refine WE.drop (b := rc) pk_ ?_
      refine WE.drop (b := r2) pk_ ?_
      refine WE.drop (b := r3) pk_ ?_
      exact end_2 rfl rfl rfl hle ⟨pd, pu, rc, r2, r3, cs, rfl, hcs.uq, rfl⟩
    | false =>
      have hy0 : y0.toNat = u0.vers := (hyf rfl).1
      have hy1 : y1.toNat = 0 := (hyf rfl).2
      rw [hy0, hy1]
      refine gx_ ?_
      rw [show ((u0.vers : Int) == 0) = false from beq_eq_false_iff_ne.2 (by omega)]
      refine gx_ ?_
      rw [show ((u0.vers : Int) == 0) = false from beq_eq_false_iff_ne.2 (by omega)]
      refine gx_ ?_
      refine WL.call rfl Tryz.call82 rfl rfl (by exact (parseUnits_ok (rc := rc) hG pk_ hA0 hI' (.inr ⟨_, _, _, _, pk_, rfl⟩) (.inr ⟨_, _, _, _, pk_, rfl⟩) (.inr ⟨_, _, _, _, pk_, rfl⟩) (.inr ⟨_, _, _, _, pk_, rfl⟩) hok hdis hsa hall hn)) ?_
      rintro _ Γ1 _ hle ⟨pu, cs, es, ce, rfl, hcs, rfl⟩
      refine gx_ ?_
      refine WE.drop (b := rc) pk_ ?_
      refine WE.drop (b := r2) pk_ ?_
      refine WE.drop (b := r3) pk_ ?_
      exact end_2 rfl rfl rfl hle ⟨pd, pu, rc, r2, r3, cs, rfl, hcs.uq, rfl⟩
  · rw [hwd] at hdr0 hpl
    obtain ⟨z0, z1, z2, z3, z4, z5, z6, z7, hz⟩ := list8 (fix_length (hsz u0 + u0.body.length) 8 big)
    have hlb : lenB true (hsz u0 + u0.body.length) big = [255, 255, 255, 255, z0, z1, z2, z3, z4, z5, z6, z7] := by
      show [255, 255, 255, 255] ++ fix (hsz u0 + u0.body.length) 8 big = _
      rw [hz]; rfl
    rw [hlb] at hdr0
    have c0 : Γ.cell bI (oI + 0) = some (.int .u8 255) := hcell 0 255 (by rw [hdr0]; rfl)
    have c1 : Γ.cell bI (oI + 1) = some (.int .u8 255) := hcell 1 255 (by rw [hdr0]; rfl)
    have c2 : Γ.cell bI (oI + 2) = some (.int .u8 255) := hcell 2 255 (by rw [hdr0]; rfl)
    have c3 : Γ.cell bI (oI + 3) = some (.int .u8 255) := hcell 3 255 (by rw [hdr0]; rfl)
    have c4 : Γ.cell bI (oI + 12) = some (.int .u8 (y0.toNat : Int)) := hcell 12 _ (by rw [hdr0]; rfl)
    have c5 : Γ.cell bI (oI + 13) = some (.int .u8 (y1.toNat : Int)) := hcell 13 _ (by rw [hdr0]; rfl)
    have hw5 : IntKind.i64.wrap (12 + 1) = 13 := rfl
    have hl12 : lsz true = 12 := rfl
    clear hy hdr0 htl hz hlb hcell
    refine gx_ ?_
    refine WC.condF rfl (decide_eq_false (by omega)) ?_
    refine gx_ ?_
    refine WC.draw 17 (.take 0 (.take 1 (.take 2 (.take 3 (.take 4 (.take 5 (.take 6 (.take 7 (.take 8 (.take 9 (.take 10 (.take 11 (.take 12 (.take 13 (.take 14 (.one 15 (.one 16 .done))))))))))))))))) ((pd, _) :: []) mixed (by (repeat (first | exact trivial | refine ⟨⟨_, pk_⟩, ?_⟩ | exact subH_self _ | apply subH_cons)); (first | done | fail)) (by decide +kernel) ?_
    refine dx_ ?_
    refine gx_ ?_
    cases big with
    | true =>
      have hy0 : y0.toNat = 0 := (hyt rfl).1
      have hy1 : y1.toNat = u0.vers := (hyt rfl).2
      rw [hy0, hy1]
      refine gx_ ?_
      rw [show ((u0.vers : Int) == 0) = false from beq_eq_false_iff_ne.2 (by omega)]
      refine gx_ ?_
      refine WL.call rfl Tryz.call82 rfl rfl (by exact (parseUnits_ok (rc := rc) hG pk_ hA0 hI' (.inr ⟨_, _, _, _, pk_, rfl⟩) (.inr ⟨_, _, _, _, pk_, rfl⟩) (.inr ⟨_, _, _, _, pk_, rfl⟩) (.inr ⟨_, _, _, _, pk_, rfl⟩) hok hdis hsa hall hn)) ?_
      rintro _ Γ1 _ hle ⟨pu, cs, es, ce, rfl, hcs, rfl⟩
      refine gx_ ?_
      refine WE.drop (b := rc) pk_ ?_
      refine WE.drop (b := r2) pk_ ?_
      refine WE.drop (b := r3) pk_ ?_
      exact end_2 rfl rfl rfl hle ⟨pd, pu, rc, r2, r3, cs, rfl, hcs.uq, rfl⟩
    | false =>
      have hy0 : y0.toNat = u0.vers := (hyf rfl).1
      have hy1 : y1.toNat = 0 := (hyf rfl).2
      rw [hy0, hy1]
      refine gx_ ?_
      rw [show ((u0.vers : Int) == 0) = false from beq_eq_false_iff_ne.2 (by omega)]
      refine gx_ ?_
      rw [show ((u0.vers : Int) == 0) = false from beq_eq_false_iff_ne.2 (by omega)]
      refine gx_ ?_
      refine WL.call rfl Tryz.call82 rfl rfl (by exact (parseUnits_ok (rc := rc) hG pk_ hA0 hI' (.inr ⟨_, _, _, _, pk_, rfl⟩) (.inr ⟨_, _, _, _, pk_, rfl⟩) (.inr ⟨_, _, _, _, pk_, rfl⟩) (.inr ⟨_, _, _, _, pk_, rfl⟩) hok hdis hsa hall hn)) ?_
      rintro _ Γ1 _ hle ⟨pu, cs, es, ce, rfl, hcs, rfl⟩
      refine gx_ ?_
      refine WE.drop (b := rc) pk_ ?_
      refine WE.drop (b := r2) pk_ ?_
      refine WE.drop (b := r3) pk_ ?_
      exact end_2 rfl rfl rfl hle ⟨pd, pu, rc, r2, r3, cs, rfl, hcs.uq, rfl⟩
end Go.Proofs.YtdplhbmoidepgaaGreatDoor
namespace Go.Sl
open Go
section
variable {P : Program} {Q : Post} {n : Nat} {D : List Deferred} {R : Regs} {Γ : Env} {H : List Blk}
/-- A loop of at most three rounds. -/
theorem WC.loop3 {c : Code} (h : WC P c (Exit.then (Rnd P c (Exit.then (Rnd P c (Exit.then NoMore Q)) Q)) Q) n D R Γ H) : WC P (.loop c) Q n D R Γ H :=
  ⟨fun a w hs => wp_loop_rounds 3 (h.go a w hs)⟩
end
end Go.Sl
namespace Go.Proofs.YtdplhbmoidepgaaGreatDoor
open Go Go.Sl
set_option maxRecDepth 10000
set_option maxHeartbeats 40000000

/-- The sections that are added: texts of lines, and perhaps lists of places. -/
structure AddR (Γ : Env) (v : Value) (lin : List UInt8) (rl : Option (List UInt8)) : Prop where
  ex : ∃ b cap vl, Γ.cell b 0 = some (.string sLineStr) ∧ Γ.cell b 1 = some vl ∧ Byt Γ vl lin ∧
    match rl with
    | none => v = .slice (some ⟨b, 0, none⟩) 1 cap ∧ 1 ≤ cap
    | some r => v = .slice (some ⟨b, 0, none⟩) 2 cap ∧ 2 ≤ cap ∧ ∃ vr, Γ.cell b 2 = some (.string sRngLists) ∧ Γ.cell b 3 = some vr ∧ Byt Γ vr r
theorem AddR.mono {Γ Γ' : Env} (hle : Γ.le Γ') {v : Value} {lin : List UInt8} {rl : Option (List UInt8)} (h : AddR Γ v lin rl) : AddR Γ' v lin rl := by
  obtain ⟨b, cap, vl, h1, h2, h3, h4⟩ := h.ex
  refine ⟨b, cap, vl, hle.cell h1, hle.cell h2, h3.mono hle, ?_⟩
  cases rl with
  | none => exact h4
  | some r =>
    obtain ⟨h5, h6, vr, h7, h8, h9⟩ := h4
    exact ⟨h5, h6, vr, hle.cell h7, hle.cell h8, h9.mono hle⟩
structure SecR (Γ : Env) (v : Value) (ab info ln rg sr lin : List UInt8) (rl : Option (List UInt8)) : Prop where
  ex : ∃ vA vI vL vR vS vD, v = .agg #[vA, vI, vL, vR, vS, vD, nls] ∧ Byt Γ vA ab ∧ Byt Γ vI info ∧ Byt Γ vL ln ∧ Byt Γ vR rg ∧ Byt Γ vS sr ∧ AddR Γ vD lin rl
def RlR (Γ : Env) (v : Value) : Option (List UInt8) → Prop
  | none => v = nls
  | some r => Byt Γ v r
theorem open_ok {Γ : Env} {H : List Blk} {big : Bool} {v : Value} {ab ln rg sr lin : List UInt8} {rl : Option (List UInt8)} {us : List PU}
   (hG : Glob Γ) (hv : SecR Γ v ab (pusB big us) ln rg sr lin rl)
   (hok : ∀ u ∈ us, OkPU ab u) (hdis : us.Pairwise (fun a b => a.abo ≠ b.abo)) (hsa : ab.length < 2147483648) (hall : (pusB big us).length < 2147483648) (hn : us.length < 2147483648) (hn0 : 0 < us.length)
   (hln : ln.length < 2147483648) (hrg : rg.length < 2147483648) (hsr : sr.length < 2147483648) (hlin : lin.length < 2147483648) (hrl : ∀ r, rl = some r → r.length < 2147483648) :
   Spc Tryz.prog 31 #[v] Γ H (fun v Γ' H' => ∃ pd pu rc r2 r3 cs dA dI dL dR dS vl vr, v = .tuple #[.pointer (some ⟨pd, 0, none⟩), .nilIface] ∧ UQs Γ' big 0 us cs ∧ Byt Γ' dR rg ∧ Byt Γ' dS sr ∧ Byt Γ' vl lin ∧ RlR Γ' vr rl ∧
     H' = (pd, cel (dcs dA dI dL dR dS nls vl nls vr rc r2 r3 big big (.slice (some ⟨pu, 0, none⟩) us.length us.length)) 173) :: (pu, cel cs 178) :: H) := by
  obtain ⟨vA, vI, vL, vR, vS, vD, rfl, hA, hI, hL, hR, hS, hD⟩ := hv.ex
  refine Spc.body1 Tryz.func31 rfl Tryz.ntmps31 rfl ?_
  refine WC.seq ?_
  refine WC.region ?_
  (refine WL.box rfl spi_ rfl ?_; intro b)
  refine gx_ ?_
  refine WC.draw 21 (.take 0 (.take 1 (.take 3 (.take 4 (.take 6 (.take 7 (.take 9 (.take 10 (.take 12 (.take 13 (.one 2 (.one 5 (.one 8 (.one 11 (.one 14 (.one 15 (.take 16 (.take 17 (.take 18 (.one 19 (.one 20 .done))))))))))))))))))))) ((b, _) :: []) mixed (by (repeat (first | exact trivial | refine ⟨⟨_, pk_⟩, ?_⟩ | exact subH_self _ | apply subH_cons)); (first | done | fail)) (by decide +kernel) ?_
  refine dx_ ?_
  refine WL.call rfl Tryz.call57 rfl rfl (by exact (copied_ok hA hsa)) ?_
  rintro dA Γ1 _ hle1 ⟨hA1, rfl⟩
  refine dx_ ?_
  refine WL.call rfl Tryz.call57 rfl rfl (by exact (copied_ok (hI.mono hle1) hall)) ?_
  rintro dI Γ2 _ hle2' ⟨hI2, rfl⟩
  have hle2 := hle1.trans hle2'
  refine dx_ ?_
  refine WL.call rfl Tryz.call57 rfl rfl (by exact (copied_ok (hL.mono hle2) hln)) ?_
  rintro dL Γ3 _ hle3' ⟨hL3, rfl⟩
  have hle3 := hle2.trans hle3'
  refine dx_ ?_
  refine WL.call rfl Tryz.call57 rfl rfl (by exact (copied_ok (hR.mono hle3) hrg)) ?_
  rintro dR Γ4 _ hle4' ⟨hR4, rfl⟩
  have hle4 := hle3.trans hle4'
  refine dx_ ?_
  refine WL.call rfl Tryz.call57 rfl rfl (by exact (copied_ok (hS.mono hle4) hsr)) ?_
  rintro dS Γ5 _ hle5' ⟨hS5, rfl⟩
  have hle5 := hle4.trans hle5'
  refine dx_ ?_
  have hA5 := hA1.mono (hle2'.trans (hle3'.trans (hle4'.trans hle5')))
  have hI5 := hI2.mono (hle3'.trans (hle4'.trans hle5'))
  have hL5 := hL3.mono (hle4'.trans hle5')
  have hR5 := hR4.mono hle5'
  refine WL.call rfl Tryz.call56 rfl rfl (by exact (new_ok (hG.mono hle5) hA5 hI5 hL5 hR5 hS5 hok hdis hsa hall hn hn0)) ?_
  rintro _ Γ6 _ hle6' ⟨pd, pu, rc, r2, r3, cs, rfl, hcs, rfl⟩
  have hle6 := hle5.trans hle6'
  refine dx_ ?_
  refine gx_ ?_
  have hD6 := hD.mono hle6
  have hR6 := hR5.mono hle6'
  have hS6 := hS5.mono hle6'
  clear hle1 hle2 hle3 hle4 hle2' hle3' hle4' hle5' hA1 hI2 hL3 hR4 hI5 hL5 hA5 hA hI hL hR hS hD hR5 hS5 hle5
  clear hv hle6'
  obtain ⟨bD, cap, vl, g0, g1, g2, g3⟩ := hD6.ex
  have g2' := g2
  obtain ⟨al, cl, rfl, -, -⟩ := g2'
  have hcell : ∀ {H' : List Blk} (o : Nat) (s v0 : Value) {q : Nat}, q = o → Γ6.cell bD o = some s → Γ6.cell bD (o + 1) = some v0 → ∀ k w, [s, v0][k]? = some w → Rd Γ6 H' bD (q + k) w := fun {H'} o s v0 q hq h0 h1 k w hk => by
    subst hq
    match k, hk with
    | 0, hk => injection hk with hk; subst hk; exact .inl h0
    | 1, hk => injection hk with hk; subst hk; exact .inl h1
  cases rl with
  | none =>
    obtain ⟨rfl, hcap⟩ := g3
    refine gx_ ?_
    refine WC.loop2 ?_
    refine gx_ ?_
    refine WL.ldRA (l := [.string sLineStr, .slice al lin.length cl]) tab_ok rfl rfl rfl (hcell 0 _ _ rfl g0 g1) rfl rfl ?_
    refine gx_ ?_
    (refine WL.alloc tab_ok rfl rfl ?_; intro b7)
    refine gx_ ?_
    refine WC.draw 8 (.take 0 (.take 1 (.take 2 (.take 3 (.take 4 (.one 5 (.one 6 (.one 7 .done)))))))) ((b7, _) :: []) mixed (by (repeat (first | exact trivial | refine ⟨⟨_, pk_⟩, ?_⟩ | exact subH_self _ | apply subH_cons)); (first | done | fail)) (by decide +kernel) ?_
    refine dx_ ?_
    refine WL.call rfl Tryz.call57 rfl rfl (by exact (copied_ok g2 hlin)) ?_
    rintro vl' Γ7 _ hle7 ⟨hvl7, rfl⟩
    refine dx_ ?_
    refine WL.call rfl Tryz.call58 rfl rfl (by exact (addLine_ok pk_ hvl7)) ?_
    rintro _ _ _ - ⟨rfl, rfl, rfl⟩
    refine dx_ ?_
    refine gx_ ?_
    refine WE.rnd ?_
    refine gx_ ?_
    refine WE.drop (b := b) pk_ ?_
    refine WE.drop (b := b7) pk_ ?_
    exact end_2 rfl rfl rfl (hle6.trans hle7) ⟨pd, pu, rc, r2, r3, cs, dA, dI, dL, dR, dS, vl', nls, rfl, hcs.mono hle7, hR6.mono hle7, hS6.mono hle7, hvl7, rfl, rfl⟩
  | some r =>
    obtain ⟨rfl, hcap, vr, g4, g5, g6⟩ := g3
    have g6' := g6
    obtain ⟨ar, cr, rfl, -, -⟩ := g6'
    refine gx_ ?_
    have hw1 : IntKind.i64.wrap (0 + 1) = 1 := rfl
    refine WC.loop3 ?_
    refine gx_ ?_
    refine WL.ldRA (l := [.string sLineStr, .slice al lin.length cl]) tab_ok rfl rfl rfl (hcell 0 _ _ rfl g0 g1) rfl rfl ?_
    refine gx_ ?_
    (refine WL.alloc tab_ok rfl rfl ?_; intro b7)
    refine gx_ ?_
    refine WC.draw 8 (.take 0 (.take 1 (.take 2 (.take 3 (.take 4 (.one 5 (.one 6 (.one 7 .done)))))))) ((b7, _) :: []) mixed (by (repeat (first | exact trivial | refine ⟨⟨_, pk_⟩, ?_⟩ | exact subH_self _ | apply subH_cons)); (first | done | fail)) (by decide +kernel) ?_
    refine dx_ ?_
    refine WL.call rfl Tryz.call57 rfl rfl (by exact (copied_ok g2 hlin)) ?_
    rintro vl' Γ7 _ hle7 ⟨hvl7, rfl⟩
    refine dx_ ?_
    refine WL.call rfl Tryz.call58 rfl rfl (by exact (addLine_ok pk_ hvl7)) ?_
    rintro _ _ _ - ⟨rfl, rfl, rfl⟩
    refine dx_ ?_
    refine gx_ ?_
    refine WE.rnd ?_
    refine gx_ ?_
    refine WL.ldRA (l := [.string sRngLists, .slice ar r.length cr]) tab_ok rfl rfl rfl (fun k w hk => (hcell 2 _ _ rfl g4 g5 k w hk).mono hle7) rfl rfl ?_
    refine gx_ ?_
    (refine WL.alloc tab_ok rfl rfl ?_; intro b8)
    refine gx_ ?_
    refine WC.draw 8 (.take 0 (.take 1 (.take 2 (.take 3 (.take 4 (.one 5 (.one 6 (.one 7 .done)))))))) ((b8, _) :: []) mixed (by (repeat (first | exact trivial | refine ⟨⟨_, pk_⟩, ?_⟩ | exact subH_self _ | apply subH_cons)); (first | done | fail)) (by decide +kernel) ?_
    refine dx_ ?_
    refine WL.call rfl Tryz.call57 rfl rfl (by exact (copied_ok (g6.mono hle7) (hrl r rfl))) ?_
    rintro vr' Γ8 _ hle8 ⟨hvr8, rfl⟩
    refine dx_ ?_
    refine WL.call rfl Tryz.call58 rfl rfl (by exact (addRng_ok pk_ hvr8)) ?_
    rintro _ _ _ - ⟨rfl, rfl, rfl⟩
    refine dx_ ?_
    refine gx_ ?_
    refine WE.rnd ?_
    refine gx_ ?_
    refine WE.drop (b := b) pk_ ?_
    refine WE.drop (b := b7) pk_ ?_
    refine WE.drop (b := b8) pk_ ?_
    exact end_2 rfl rfl rfl (hle6.trans (hle7.trans hle8)) ⟨pd, pu, rc, r2, r3, cs, dA, dI, dL, dR, dS, vl', vr', rfl, hcs.mono (hle7.trans hle8), hR6.mono (hle7.trans hle8), hS6.mono (hle7.trans hle8), hvl7.mono hle8, hvr8, rfl⟩
end Go.Proofs.YtdplhbmoidepgaaGreatDoor
namespace Go.Proofs.YtdplhbmoidepgaaGreatDoor
open Go Go.Sl
set_option maxRecDepth 10000
set_option maxHeartbeats 40000000

abbrev uctx (big : Bool) (sr lin : List UInt8) (base : Nat) (u : PU) : Ctx := ⟨u.vers, u.wide, u.size, base, big, sr, lin⟩
/-- A unit begins with an entry. -/
structure PTop (c : Ctx) (u : PU) : Prop where
  size : u.size = 4 ∨ u.size = 8
  ent : ∃ a its l, u.body = ulebL a.code ++ (itexts its ++ l) ∧ Die c u.abs a its
theorem isBig_ok {Γ : Env} {H : List Blk} {big : Bool} {v : Value} {ab ln rg sr lin : List UInt8} {rl : Option (List UInt8)} {us : List PU} {u0 : PU}
   (hG : Glob Γ) (hv : SecR Γ v ab (pusB big us) ln rg sr lin rl)
   (hok : ∀ u ∈ us, OkPU ab u) (hdis : us.Pairwise (fun a b => a.abo ≠ b.abo)) (hsa : ab.length < 2147483648) (hall : (pusB big us).length < 2147483648) (hn : us.length < 2147483648)
   (hln : ln.length < 2147483648) (hrg : rg.length < 2147483648) (hsr : sr.length < 2147483648) (hlin : lin.length < 2147483648) (hrl : ∀ r, rl = some r → r.length < 2147483648)
   (hu0 : us[0]? = some u0) (hT : PTop (uctx big sr lin 0 u0) u0) :
   Spc Tryz.prog 12 #[v] Γ H (fun v Γ' H' => v = .tuple #[.bool big, .int .i64 0] ∧ H' = H) := by
  have hn0 : 0 < us.length := (List.getElem?_eq_some_iff.1 hu0).1
  have hv' := hv
  obtain ⟨vA, vI, vL, vR, vS, vD, rfl, -⟩ := hv'.ex
  refine Spc.body1 Tryz.func12 rfl Tryz.ntmps12 rfl ?_
  refine WC.seq ?_
  refine WC.region ?_
  (refine WL.box rfl spi_ rfl ?_; intro b)
  refine gx_ ?_
  refine WL.call rfl Tryz.call31 rfl rfl (by exact (open_ok hG hv hok hdis hsa hall hn hn0 hln hrg hsr hlin hrl)) ?_
  rintro _ Γ1 _ hle1 ⟨pd, pu, rc, r2, r3, cs, dA, dI, dL, dR, dS, vl, vr, rfl, hcs, hR, hS, hl, hr, rfl⟩
  obtain ⟨p, c0, q, rfl, hp0, ⟨d, r, es, cm, u5, rfl, hd, him, hes⟩, -⟩ := hcs.get hu0
  have hp1 : p = [] := List.eq_nil_of_length_eq_zero (by omega)
  subst hp1
  have hou := hok u0 (List.mem_of_getElem? hu0)
  obtain ⟨hz8, a, its, l, hb, hD⟩ := hT
  have hsp := pusB_split big us 0
  have hdr0 := pusB_drop (big := big) hu0
  rw [hdr0, List.length_append, puB_length] at hsp
  have hblen : u0.body.length = (ulebL a.code).length + (itexts its).length + l.length := by rw [hb, List.length_append, List.length_append]; omega
  rw [hb] at hd
  have e0 : 0 + (pusB big (us.take 0)).length = 0 := rfl
  rw [e0]
  refine gx_ ?_
  refine WL.call rfl Tryz.call33 rfl rfl (by exact (reader_ok (pu := pu) (c := uctx big sr lin 0 u0) (off1 := 0 + lsz u0.wide + hsz u0) (d := d) (r := r) (u5 := u5) (vers := u0.vers) (q := q) (n := us.length) (hG.mono hle1) pk_ ⟨⟨dS, .inr ⟨_, _, _, _, pk_, rfl⟩, hS⟩, ⟨vl, .inr ⟨_, _, _, _, pk_, rfl⟩, hl⟩, .inr ⟨_, _, _, _, pk_, rfl⟩, hsr, hlin⟩ (.inr ⟨_, _, _, _, pk_, rfl⟩) hn0 ⟨rfl, hz8, hou.dist, ⟨es, cm, him, hes⟩, a, its, l, hd, hD, by omega⟩)) ?_
  rintro _ Γ2 _ hle2 ⟨pr, u5', rfl, rfl⟩
  refine gx_ ?_
  refine WL.call rfl Tryz.call34 rfl rfl (by exact (readerOrder_ok pk_)) ?_
  rintro _ _ _ - ⟨rfl, rfl, rfl⟩
  refine gx_ ?_
  refine WE.drop (b := b) pk_ ?_
  refine WE.drop (b := pr) pk_ ?_
  refine WE.drop (b := pu) pk_ ?_
  refine WE.drop (b := pd) pk_ ?_
  exact end_2 rfl rfl rfl (hle1.trans hle2) ⟨rfl, rfl⟩
end Go.Proofs.YtdplhbmoidepgaaGreatDoor
