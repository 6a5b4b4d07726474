/- Parts of the proof: Ta Tb Dh Di Dj Dk Dl. -/
import Derived.Test.YtbgkbgoonjkghaaGreatDoorA3
import Derived.Test.YtbgkbgoonjkghaaGreatDoorA6
import Derived.Test.YtbgkbgoonjkghaaGreatDoorA4
import Derived.Scope
import Derived.Defers
import Derived.LaidEql
import Derived.Test.YtbgkbgoonjkghaaGreatDoorA8
import Derived.Test.YtbgkbgoonjkghaaGreatDoorA9
namespace Go.Sl
open Go
section
variable {P : Program} {ops : Array Oper} {Q : Post} {n : Nat} {D : List Deferred} {R : Regs} {Γ : Env} {H : List Blk} {rest : List Oper}
variable {d : Nat} {ty : TypeId} {pos : String} {aft : Array Edge}
theorem WC.scope {c : Code} (h : WC P c (Exit.noGoto Q) n D R Γ H) : WC P (.scope c) Q n D R Γ H := ⟨fun a w hs => wp_scope_straight (h.go a w hs)⟩
theorem WE.ng_n (k : WE Q .normal n D R Γ H) : WE (Exit.noGoto Q) .normal n D R Γ H := ⟨fun a w hs => k.go a w hs⟩
theorem WE.ng_r (k : WE Q .ret n D R Γ H) : WE (Exit.noGoto Q) .ret n D R Γ H := ⟨fun a w hs => k.go a w hs⟩
theorem WE.ng_x {id : Nat} (k : WE Q (.exit id) n D R Γ H) : WE (Exit.noGoto Q) (.exit id) n D R Γ H := ⟨fun a w hs => k.go a w hs⟩
def MidD (M : List Deferred → Regs → Env → List Blk → Prop) (n : Nat) : Act → World → Prop := fun a w => ∃ D' R' Γ' H', M D' R' Γ' H' ∧ Sat n D' R' Γ' H' a w
theorem WC.cutD {x : Code} (M : List Deferred → Regs → Env → List Blk → Prop) (hx : WC P x (Exit.then (MidD M n) Q) n D R Γ H) (hy : ∀ D' R' Γ' H', M D' R' Γ' H' → WE Q .normal n D' R' Γ' H') : WC P x Q n D R Γ H :=
 ⟨fun a w hs => wp_mono (hx.go a w hs) fun e a w hq => by
  cases e with
  | normal =>
   obtain ⟨D', R', Γ', H', hM, hs'⟩ := hq
   exact (hy D' R' Γ' H' hM).go a w hs'
  | _ => exact hq⟩
theorem WE.midD {M : List Deferred → Regs → Env → List Blk → Prop} {R' : Regs} {Γ' : Env} {H' : List Blk} (hM : M D R' Γ' H') (hR : subR R R') (hH : ∀ w, St Γ H w → St Γ' H' w) : WE (Exit.then (MidD M n) Q) .normal n D R Γ H :=
 ⟨fun a w hs => ⟨D, R', Γ', H', hM, hs.defers, hs.size, fun i v e => hs.regs i v (subR_get hR i v e), hH w hs.st⟩⟩
theorem WL.defer {x : Operand} {ats : Array TypeId} {fn : Fn} {cs : Array Value} (hx : ev R x = some (.func fn #[] cs))
  (K : WL P ops Q n (⟨.fn fn cs, #[]⟩ :: D) rest R Γ H) : WL P ops Q n D (⟨none, .defer { callee := .value x, args := #[], argTypes := ats }, ty, pos, aft, none⟩ :: rest) R Γ H := by
 refine ⟨fun a w hs => ?_⟩
 refine wpList_plain rfl fun Kk hK => ?_
 have hr : (execOp a.eval ⟨none, .defer { callee := .value x, args := #[], argTypes := ats }, ty, pos, aft, none⟩).run P w = .ok (.defer ⟨.fn fn cs, #[]⟩) w := by
  simp only [execOp, resolve, ev_eval hs.regs hx, Deferred.ofValue, Sem.run_bind, Sem.run_pure, Result.andThen_ok]
  simp
 simp only [Oper.wp, hr, Oper.upon_defer]
 refine hK _ _ (K.go _ _ ⟨?_, ?_, ?_, hs.st⟩)
 ·show ⟨.fn fn cs, #[]⟩ :: a.defers = _
  rw [hs.defers]
 ·exact hs.size
 ·exact hs.regs
def bodyQD (P : Program) (fn : Func) (Γ0 : Env) (post : Value → Env → List Blk → Prop) : Post :=
 bodyPostD P fn (fun e w' => ∃ v Γ' H', e = .returned v ∧ Γ0.le Γ' ∧ St Γ' H' w' ∧ post v Γ' H')
structure SpcD (P : Program) (f : FuncId) (args : Array Value) (Γ : Env) (H : List Blk) (post : Value → Env → List Blk → Prop) : Prop where
 go : ∀ w, St Γ H w → CallsD P f args .returning w (fun e u' w' => u' = .returning ∧ ∃ v Γ' H', e = .returned v ∧ Γ.le Γ' ∧ St Γ' H' w' ∧ post v Γ' H')
theorem zipR_fits {fn : Func} {vs : List Value} {m : Nat} (hn : fn.ntmps = m) (hm : vs.length ≤ m) {w : World} (hw : St Γ H w) :
  Sat m [] (zipR 0 vs) Γ H { tmps := vs.toArray ++ Array.replicate (fn.ntmps - vs.toArray.size) undef, defers := [] } w := by
 refine ⟨rfl, by simp [hn]; omega, ?_, hw⟩
 intro i v hi
 obtain ⟨_, h2⟩ := zipR_get vs 0 i v hi
 have h2' : vs[i]? = some v := by simpa using h2
 have hlt : i < vs.length := by
  rcases Nat.lt_or_ge i vs.length with h | h
  ·exact h
  ·simp [List.getElem?_eq_none h] at h2'
 show (vs.toArray ++ Array.replicate (fn.ntmps - vs.toArray.size) undef)[i]? = some v
 rw [Array.getElem?_append_left (by simpa using hlt)]
 simpa using h2'
theorem SpcD.of_body {f : FuncId} {fn : Func} {c : Code} {vs : List Value} {post : Value → Env → List Blk → Prop} {m : Nat}
  (hf : P.funcs[f]? = some fn) (hb : fn.body = some c) (hn : fn.ntmps = m) (hm : Nat.ble (llen vs) m = true)
  (h : WC P c (bodyQ P fn Γ post) m [] (zipR 0 vs) Γ H) : SpcD P f vs.toArray Γ H post := ⟨fun w hw => by
 rw [llen_eq] at hm
 exact callsD_of_wp hf hb (h.go _ _ (zipR_fits hn (Nat.le_of_ble_eq_true hm) hw))⟩
theorem Spc.of_bodyD {f : FuncId} {fn : Func} {c : Code} {vs : List Value} {post : Value → Env → List Blk → Prop} {m : Nat}
  (hf : P.funcs[f]? = some fn) (hb : fn.body = some c) (hn : fn.ntmps = m) (hm : Nat.ble (llen vs) m = true)
  (h : WC P c (bodyQD P fn Γ post) m [] (zipR 0 vs) Γ H) : Spc P f vs.toArray Γ H post := ⟨fun w hw => by
 rw [llen_eq] at hm
 exact calls_of_wp_defers hf hb (h.go _ _ (zipR_fits hn (Nat.le_of_ble_eq_true hm) hw))⟩
theorem endD_20 {fn : Func} {Γ0 : Env} {post : Value → Env → List Blk → Prop} {t u : Nat} {v v' : Value} (hr : fn.results = #[.tmp t, .tmp u]) (hv : rget R t = some v) (hv' : rget R u = some v') (hle : Γ0.le Γ) (hp : post (.tuple #[v, v']) Γ H) :
  WE (bodyQD P fn Γ0 post) .ret n [] R Γ H := ⟨fun a w hs => by
 show Leaves P fn a.tmps _ a.defers .returning w
 rw [hs.defers]
 refine ⟨.tuple #[v, v'], ?_, _, Γ, H, rfl, hle, hs.st, hp⟩
 rw [results_tmp2 hr]
 have h1 := hs.regs t v hv
 have h2 := hs.regs u v' hv'
 simp [Array.getD_eq_getD_getElem?, h1, h2]⟩
theorem endD_21 {fn : Func} {Γ0 : Env} {post postd : Value → Env → List Blk → Prop} {t u : Nat} {v v' : Value} {f : FuncId} {cs : List Value} (hr : fn.results = #[.tmp t, .tmp u]) (hv : rget R t = some v) (hv' : rget R u = some v') (hle : Γ0.le Γ)
  (hcall : ∀ args w, (callFunc f args).run P w = .ok (.enter f args) w) (hc : SpcD P f cs.toArray Γ H postd) (k : ∀ x Γ' H', Γ.le Γ' → postd x Γ' H' → post (.tuple #[v, v']) Γ' H') :
  WE (bodyQD P fn Γ0 post) .ret n [⟨.fn (.func f) cs.toArray, #[]⟩] R Γ H := ⟨fun a w hs => by
 show Leaves P fn a.tmps _ a.defers .returning w
 rw [hs.defers]
 refine ⟨by simp, .func f, cs.toArray, f, cs.toArray, rfl, ?_, ?_⟩
 ·show (callFunc f (#[] ++ cs.toArray)).run P w = _
  rw [hcall]; simp
 ·refine (hc.go w hs.st).mono ?_
  rintro e u' w' ⟨rfl, x, Γ', H', rfl, hle', hst, hp⟩
  refine ⟨.tuple #[v, v'], ?_, _, Γ', H', rfl, hle.trans hle', hst, k x Γ' H' hle' hp⟩
  rw [results_tmp2 hr]
  have h1 := hs.regs t v hv
  have h2 := hs.regs u v' hv'
  simp [Array.getD_eq_getD_getElem?, h1, h2]⟩
end
def PtrOk (P : Program) (tp : TypeId) : Prop := ∃ te i j, P.underlying tp = some (.pointer te) ∧ P.info? tp = some i ∧ i.comparable = true ∧ P.info? te = some j ∧ j.size ≠ 0
abbrev pkey (tp : TypeId) (b : Nat) : Value := .iface tp (.pointer (some ⟨b, 0, none⟩))
def pfind (tp : TypeId) (b : Nat) : List (TypeId × Nat × Value) → Nat → Option (Nat × Value)
 | [], _ => none
 | x :: l, i => if x.1 = tp ∧ x.2.1 = b then some (i, x.2.2) else pfind tp b l (i + 1)
def PEs (es : List MapEntry) (l : List (TypeId × Nat × Value)) : Prop := es.map (fun e => (e.key, e.val)) = l.map fun x => (pkey x.1 x.2.1, x.2.2)
section
variable {P : Program}
theorem run_equalIn_iface_type (w : World) (d : Nat) {ti tp tq : TypeId} {ms : Array (String × TypeId)} {u v : Value} (hi : P.underlying ti = some (.interface ms)) (hne : tp ≠ tq) : (Op.equalIn (d + 1) ti (.iface tp u) (.iface tq v)).run P w = .ok false w := by
 simp [Op.equalIn, run_underlying hi, hne]
theorem run_findAsking {kt : TypeId} {ms : Array (String × TypeId)} {tp : TypeId} {b : Nat} {w : World} (hi : P.underlying kt = some (.interface ms)) (hP : PtrOk P tp) (hb : ∃ c t, w.heap[b]? = some (.cells c t (0, 0))) :
  ∀ {l : List (TypeId × Nat × Value)} {es : List MapEntry} {i : Nat}, PEs es l → (∀ x ∈ l, ∃ c t, w.heap[x.2.1]? = some (.cells c t (0, 0))) → (Instr.findAsking kt (pkey tp b) es i).run P w = .ok (pfind tp b l i) w
 | [], [], i, _, _ => by simp [Instr.findAsking, pfind]
 | [], e :: es, i, h, _ => by simp [PEs] at h
 | x :: l, [], i, h, _ => by simp [PEs] at h
 | x :: l, e :: es, i, h, hx => by
  obtain ⟨te, ii, jj, h1, h2, h3, h4, h5⟩ := hP
  simp only [PEs, List.map_cons, List.cons.injEq, Prod.mk.injEq] at h
  obtain ⟨⟨hk, hv⟩, ht⟩ := h
  have ih := run_findAsking (i := i + 1) hi ⟨te, ii, jj, h1, h2, h3, h4, h5⟩ hb (l := l) (es := es) ht fun y hy => hx y (List.mem_cons_of_mem _ hy)
  have heq : (Op.equal kt (pkey tp b) e.key).run P w = .ok (decide (x.1 = tp ∧ x.2.1 = b)) w := by
   rw [hk]
   show (Op.equalIn 10000 kt (pkey tp b) (pkey x.1 x.2.1)).run P w = _
   by_cases ht : x.1 = tp
   ·rw [ht]
    by_cases hbb : x.2.1 = b
    ·rw [hbb, show decide (tp = tp ∧ b = b) = true from by simp]
     exact run_equalIn_iface_ptr_same w 9998 _ hi h1 h2 h3 h4
    ·rw [show decide (tp = tp ∧ x.2.1 = b) = false from by simp [hbb]]
     obtain ⟨c1, t1, hb1⟩ := hb
     obtain ⟨c2, t2, hb2⟩ := hx x (List.mem_cons_self ..)
     exact run_equalIn_iface_ptr_other w 9998 hi h1 h2 h3 h4 h5 (fun e => hbb (by injection e with e; exact e.symm)) hb1 hb2
   ·rw [show decide (x.1 = tp ∧ x.2.1 = b) = false from by simp [ht]]
    have hne : tp ≠ x.1 := fun e => ht e.symm
    exact run_equalIn_iface_type w 9999 hi hne
  simp only [Instr.findAsking, Sem.run_bind, heq, Result.andThen_ok, pfind]
  by_cases hc : x.1 = tp ∧ x.2.1 = b
  ·simp [hc, hv]
  ·simp only [hc, decide_false, if_false, Bool.false_eq_true]
   exact ih
theorem run_findP {kt : TypeId} {ms : Array (String × TypeId)} {tp : TypeId} {b : Nat} {w : World} (hi : P.underlying kt = some (.interface ms)) (hP : PtrOk P tp) (hb : ∃ c t, w.heap[b]? = some (.cells c t (0, 0)))
  {l : List (TypeId × Nat × Value)} {es : List MapEntry} (h : PEs es l) (hx : ∀ x ∈ l, ∃ c t, w.heap[x.2.1]? = some (.cells c t (0, 0))) : (Instr.findKey kt (pkey tp b) es).run P w = .ok (pfind tp b l 0) w := by
 unfold Instr.findKey
 simp only [Sem.run_bind, run_underlying hi, Result.andThen_ok]
 cases es with
 | nil =>
  cases l with
  | nil => simp [Instr.findNow, pfind]
  | cons y l => simp [PEs] at h
 | cons e es =>
  have hn : Instr.findNow (.interface ms) (pkey tp b) (e :: es) 0 = none := by simp [Instr.findNow, Instr.sameNow]
  rw [hn]
  exact run_findAsking hi hP hb h hx
theorem run_checkKeyP {kt : TypeId} {ms : Array (String × TypeId)} {tp : TypeId} {b : Nat} (hi : P.underlying kt = some (.interface ms)) (hP : PtrOk P tp) (e : Bool) (w : World) : (Instr.checkKey e 10000 kt (pkey tp b)).run P w = .ok () w := by
 obtain ⟨te, ii, jj, h1, h2, h3, h4, h5⟩ := hP
 rw [show (10000 : Nat) = 9998 + 1 + 1 from rfl]
 unfold Instr.checkKey
 simp only [Sem.run_bind, run_underlying hi, Result.andThen_ok]
 unfold Instr.checkKey
 simp [run_underlying h1, typeInfo, h2, h3]
end
section
variable {P : Program} {ops : Array Oper} {Q : Post} {n : Nat} {D : List Deferred} {R : Regs} {Γ : Env} {H : List Blk} {rest : List Oper}
variable {d : Nat} {ty : TypeId} {pos : String} {aft : Array Edge}
def KeyB (Γ : Env) (b : Nat) : Prop := ∃ c t, Γ.imm b = some (.cells c t (0, 0))
theorem WL.lookupP {T : Tab} (hT : TabOk P T) {t kt et : TypeId} {x y : Operand} {r : Nat} {es : List MapEntry} {c : Nat} {ms : Array (String × TypeId)} {tp : TypeId} {b : Nat} {ok : Bool} {j : TI} {v : Value} {l : List (TypeId × Nat × Value)}
  (hx : ev R x = some (.map (some r))) (hy : ev R y = some (pkey tp b)) (ht : T.desc t = some (.map kt et)) (hk : T.desc kt = some (.interface ms)) (hj : T.get et = some j) (hm : mapAt Γ H r es c) (hP : PtrOk P tp) (hb : KeyB Γ b) (hes : PEs es l) (hl : ∀ x ∈ l, KeyB Γ x.2.1)
  (hv : mres j.zero ok (pfind tp b l 0) = v) (hd : Nat.blt d n = true) (k : WL P ops Q n D rest ((d, v) :: R) Γ H) :
  WL P ops Q n D (⟨some d, .lookup t x y ok, ty, pos, aft, none⟩ :: rest) R Γ H :=
 WL.value hd fun a w hw => by
  refine ⟨_, w, ?_, Γ, H, hw.st, k⟩
  subst hv
  have hkb : ∀ {q : Nat}, KeyB Γ q → ∃ c t, w.heap[q]? = some (.cells c t (0, 0)) := fun ⟨c, t, h⟩ => ⟨c, t, hw.st.imm _ _ h⟩
  simp only [execOp, ev_eval hw.regs hx, ev_eval hw.regs hy, Instr.lookup, Sem.run_bind, run_underlying (Tab.desc_ok hT ht), Result.andThen_ok, run_getObj r _ _ w (hm.get hw.st), Sem.run_pure,
   run_checkKeyP (Tab.desc_ok hT hk) hP, run_findP (Tab.desc_ok hT hk) hP (hkb hb) hes (fun x hx => hkb (hl x hx))]
  cases pfind tp b l 0 with
  | none => cases ok <;> simp [run_zeroValue' (hT.get hj), mres]
  | some p => obtain ⟨q, v⟩ := p; cases ok <;> simp [mres]
theorem WL.mapNewP {T : Tab} (hT : TabOk P T) {t kt et : TypeId} {x y u : Operand} {r : Nat} {es : List MapEntry} {c : Nat} {ms : Array (String × TypeId)} {tp : TypeId} {b : Nat} {v : Value} {H' : List Blk} {l : List (TypeId × Nat × Value)}
  (hx : ev R x = some (.map (some r))) (hy : ev R y = some (pkey tp b)) (hu : ev R u = some v) (ht : T.desc t = some (.map kt et)) (hk : T.desc kt = some (.interface ms)) (hp : Pick H r (.map es.toArray c) H') (hP : PtrOk P tp) (hb : KeyB Γ b) (hes : PEs es l) (hl : ∀ x ∈ l, KeyB Γ x.2.1)
  (hf : pfind tp b l 0 = none) (k : WL P ops Q n D rest R Γ ((r, .map (es ++ [MapEntry.mk (pkey tp b) v c]).toArray (c + 1)) :: H')) :
  WL P ops Q n D (⟨none, .mapUpdate t x y u, ty, pos, aft, none⟩ :: rest) R Γ H :=
 WL.skip_ fun a w hw => by
  have hst := hw.st.perm hp.perm
  have hb1 := hst.own r _ (List.mem_cons_self ..)
  have hlt := hst.lt (List.mem_cons_self ..)
  have hkb : ∀ {q : Nat}, KeyB Γ q → ∃ c t, w.heap[q]? = some (.cells c t (0, 0)) := fun ⟨c, t, h⟩ => ⟨c, t, hw.st.imm _ _ h⟩
  refine ⟨{ w with heap := w.heap.setIfInBounds r (.map (es ++ [MapEntry.mk (pkey tp b) v c]).toArray (c + 1)) }, ?_, Γ, _, hst.put _ (fun q hq => by show (w.heap.setIfInBounds r _)[q]? = _; rw [Array.getElem?_setIfInBounds_ne (Ne.symm hq)]) (by show (w.heap.setIfInBounds r _)[r]? = _; rw [Array.getElem?_setIfInBounds_self]; simp [hlt]) rfl rfl rfl, k⟩
  simp only [execOp, ev_eval hw.regs hx, ev_eval hw.regs hy, ev_eval hw.regs hu, Instr.mapUpdate, Sem.run_bind, run_underlying (Tab.desc_ok hT ht), Result.andThen_ok, run_getObj r _ _ w hb1, Sem.run_pure,
   run_checkKeyP (Tab.desc_ok hT hk) hP, run_findP (Tab.desc_ok hT hk) hP (hkb hb) hes (fun x hx => hkb (hl x hx)), hf]
  simp [run_setObj (P := P) r _ _ _ w hb1]
theorem PEs.snoc {es : List MapEntry} {l : List (TypeId × Nat × Value)} {tp : TypeId} {b c : Nat} {v : Value} (h : PEs es l) : PEs (es ++ [MapEntry.mk (pkey tp b) v c]) (l ++ [(tp, b, v)]) := by
 unfold PEs at *
 rw [List.map_append, List.map_append, h]; rfl
end
open Go Go.BigFrame
section
variable {P : Program} {ops : Array Oper} {Q : Post} {n : Nat} {D : List Deferred} {R : Regs} {Γ : Env} {H : List Blk} {rest : List Oper}
variable {d : Nat} {ty : TypeId} {pos : String} {aft : Array Edge}
def Lv (Γ : Env) (H : List Blk) (b : Nat) : Prop := Γ.imm b ≠ none ∨ b ∈ H.map Prod.fst
theorem Lv.mono {Γ' : Env} (hle : Γ.le Γ') {b : Nat} (h : Lv Γ H b) : Lv Γ' H b := by
 rcases h with h | h
 ·refine .inl fun e => h ?_
  cases e2 : Γ.imm b with
  | none => rfl
  | some o => rw [hle.imm b o e2] at e; cases e
 ·exact .inr h
theorem Lv.app {G : List Blk} {b : Nat} (h : Lv Γ H b) : Lv Γ (G ++ H) b := by
 rcases h with h | h
 ·exact .inl h
 ·exact .inr (by rw [List.map_append]; exact List.mem_append_right _ h)
theorem Lv.cons {x : Blk} {b : Nat} (h : Lv Γ H b) : Lv Γ (x :: H) b := Lv.app (G := [x]) h
theorem Lv.here {b : Nat} {o : Obj} : Lv Γ ((b, o) :: H) b := .inr (by simp)
theorem St.fresh {b : Nat} {o : Obj} {H' : List Blk} {w : World} (h : St Γ ((b, o) :: H') w) : ∀ x, Lv Γ H' x → x ≠ b := by
 intro x hx e
 subst e
 rcases hx with hx | hx
 ·exact hx (h.apart x o (List.mem_cons_self ..))
 ·exact (List.nodup_cons.1 h.nodup).1 hx
theorem WL.fresh {b : Nat} {o : Obj} {H' : List Blk} (hp : Pick H b o H') (k : (∀ x, Lv Γ H' x → x ≠ b) → WL P ops Q n D rest R Γ H) : WL P ops Q n D rest R Γ H :=
 ⟨fun a w hs => (k (hs.st.perm hp.perm).fresh).go a w hs⟩
theorem WC.fresh {c : Code} {b : Nat} {o : Obj} {H' : List Blk} (hp : Pick H b o H') (k : (∀ x, Lv Γ H' x → x ≠ b) → WC P c Q n D R Γ H) : WC P c Q n D R Γ H :=
 ⟨fun a w hs => (k (hs.st.perm hp.perm).fresh).go a w hs⟩
theorem WE.fresh {e : Exit} {b : Nat} {o : Obj} {H' : List Blk} (hp : Pick H b o H') (k : (∀ x, Lv Γ H' x → x ≠ b) → WE Q e n D R Γ H) : WE Q e n D R Γ H :=
 ⟨fun a w hs => (k (hs.st.perm hp.perm).fresh).go a w hs⟩
theorem fieldPlace0 {P : Program} {f : Field} {j : TypeInfo} (hj : P.info? f.type = some j) (hn : j.size ≠ 0) (ho : f.offset = 0) (b : Nat) (w : World) :
  (fieldPlace ⟨b, 0, none⟩ f).run P w = .ok ⟨b, 0, none⟩ w := by
 unfold fieldPlace
 simp only [sizeOf, typeInfo, Sem.run_bind, run_program, Result.andThen_ok, hj, Sem.run_pure, hn, if_false, ho, Addr.add_lit]
inductive EmbV (P : Program) : List FieldStep → TypeId → TypeId → Prop where
 | nil {t : TypeId} : EmbV P [] t t
 | cons {l : List FieldStep} {t t1 s : TypeId} {fs : Array Field} {f : Field} {j : TypeInfo} (hs : P.underlying s = some (.struct fs)) (hf : fs[0]? = some f) (hj : P.info? f.type = some j) (hn : j.size ≠ 0) (ho : f.offset = 0) (h : EmbV P l f.type t1) : EmbV P (⟨s, 0, false⟩ :: l) t t1
theorem run_followV {l : List FieldStep} {t t1 : TypeId} (h : EmbV P l t t1) {b : Nat} {w : World} : (follow l t (.var ⟨b, 0, none⟩)).run P w = .ok (t1, .var ⟨b, 0, none⟩) w := by
 induction h with
 | nil => simp [follow]
 | cons hs hf hj hn ho _ ih =>
  simp only [follow, Sem.run_bind, run_underlying hs, Result.andThen_ok, hf, Bool.false_eq_true, if_false, fieldPlace0 hj hn ho]
  exact ih
theorem run_method_emb {t s : TypeId} {fs : Array Field} {f : Field} {j : TypeInfo} {l : List FieldStep} {t1 : TypeId} {fn : FuncId} {name : String} {us : Array Field}
  (hm : ((P.info? t).bind fun i => (i.methods.find? (·.name == name)).map fun m => (m.path.toList, m.func)) = some (⟨s, 0, true⟩ :: l, some (fn, true)))
  (hs : P.underlying s = some (.struct fs)) (hf : fs[0]? = some f) (hj : P.info? f.type = some j) (hn : j.size ≠ 0) (ho : f.offset = 0) (hl : EmbV P l f.type t1) (ht : P.underlying t1 = some (.struct us)) (k : Nat) (b : Nat) (w : World) :
  (method (k + 1) t (.pointer (some ⟨b, 0, none⟩)) name).run P w = .ok (fn, .pointer (some ⟨b, 0, none⟩)) w := by
 cases hi : P.info? t with
 | none => rw [hi] at hm; cases hm
 | some i =>
  rw [hi] at hm
  simp only [Option.bind_some] at hm
  cases hfd : i.methods.find? (·.name == name) with
  | none => rw [hfd] at hm; cases hm
  | some m =>
   rw [hfd] at hm
   simp only [Option.map_some, Option.some.injEq, Prod.mk.injEq] at hm
   have h1 : (follow m.path.toList t (.val (.pointer (some ⟨b, 0, none⟩)))).run P w = .ok (t1, .var ⟨b, 0, none⟩) w := by
    rw [hm.1]
    simp only [follow, Sem.run_bind, run_underlying hs, Result.andThen_ok, hf, if_true, Place.get, Sem.run_pure, asAddr, fieldPlace0 hj hn ho]
    exact run_followV hl
   simp only [method, typeInfo, Sem.run_bind, run_program, Result.andThen_ok, hi, Sem.run_pure, hfd, h1, hm.2, receiverAt, run_underlying ht]
theorem WL.assertI {T : Tab} (hT : TabOk P T) {x : Operand} {xt t tp : TypeId} {u : Value} {want : Array (String × TypeId)} (hx : ev R x = some (.iface tp u)) (ht : T.desc t = some (.interface want))
  (hm : ((P.info? tp).map fun i => Instr.missingMethod want i.methods) = some none) (hd : Nat.blt d n = true) (k : WL P ops Q n D rest ((d, .iface tp u) :: R) Γ H) :
  WL P ops Q n D (⟨some d, .typeAssert x xt t false, ty, pos, aft, none⟩ :: rest) R Γ H :=
 WL.value hd fun a w hw => by
  refine ⟨_, w, ?_, Γ, H, hw.st, k⟩
  cases hi : P.info? tp with
  | none => rw [hi] at hm; cases hm
  | some i =>
   rw [hi] at hm
   simp only [Option.map_some, Option.some.injEq] at hm
   simp only [execOp, Instr.typeAssert, ev_eval hw.regs hx, Sem.run_bind, run_underlying (Tab.desc_ok hT ht), Result.andThen_ok, typeInfo, run_program, hi, Sem.run_pure, hm]
   rfl
theorem WL.make2 {T : Tab} (hT : TabOk P T) {t e : TypeId} {j : TI} {bt : Nat} {zc : List Value} {x y : Operand} {kx ky : IntKind} {z1 z : Int} (ht : T.desc t = some (.slice e)) (hj : T.get e = some j) (hz : Nat.beq (llen j.zc) j.size = true) (hs : Nat.blt 0 j.size = true)
  (hx : ev R x = some (.int kx z1)) (hy : ev R y = some (.int ky z)) (hbt : T.bytes e = some bt) (hzc' : T.zc e = some zc) (h0 : 0 ≤ z1) (h1 : z1 ≤ z) (hb : (bt : Int) * z ≤ 140737488355328) (h63 : z ≤ 140737488355328) (hd : Nat.blt d n = true)
  (K : ∀ b, WL P ops Q n D rest ((d, .slice (some ⟨b, 0, none⟩) z1.toNat z.toNat) :: R) Γ ((b, cel (reps z.toNat zc) e) :: H)) : WL P ops Q n D (⟨some d, .makeSlice t x y, ty, pos, aft, none⟩ :: rest) R Γ H :=
 WL.value hd fun a w hw => by
  rw [Tab.bytes_get hj] at hbt; injection hbt with hbt; subst hbt
  rw [Tab.zc_get hj] at hzc'; injection hzc' with hzc'; subst hzc'
  obtain ⟨_, i, hi, his, hib, hiz, hzc⟩ := hT.get hj
  have hzs : j.zero.cells.size = j.size := by
   rw [← Array.length_toList, vcells_eq, hzc, ← llen_eq]; exact Nat.eq_of_beq_eq_true hz
  have hs' : 0 < j.size := by simpa [Nat.blt_eq] using hs
  refine ⟨_, _, ?_, Γ, _, hw.st.alloc (cel (reps z.toNat j.zc) e), K w.heap.size⟩
  have hr := run_make (P := P) w t e i j.zero (Tab.desc_ok hT ht) hi hiz kx ky z1 z h0 h1 (by rw [hib]; omega) (by omega)
  have hm : madeCells j.zero.cells (z.toNat * i.size) = (reps z.toNat j.zc).toArray := by
   rw [his, ← hzc, ← vcells_eq, ← zeros_eq _ _ _ hzs hs']; rfl
  rw [hm] at hr
  simp only [execOp, ev_eval hw.regs hx, ev_eval hw.regs hy, Sem.run_bind, hr, Result.andThen_ok, Sem.run_pure]
theorem Ow.room {s b m k : Nat} {l sp : List Value} {T : TypeId} (h1 : m ≤ k) (h2 : l.length = m * s) (h3 : sp.length + l.length = k * s) : Ow s (.slice (Option.some ⟨b, 0, none⟩) m k) m l [(b, cel (l ++ sp) T)] :=
 Ow.row h1 h2 h3 (.inl (Nat.le_refl _))
end
end Go.Sl
namespace Go.Proofs.YtbgkbgoonjkghaaGreatDoor
open Go Go.Sl
set_option maxRecDepth 10000
set_option maxHeartbeats 4000000
theorem subH_app {G H Hs : List Blk} (h : subH H Hs) : subH (G ++ H) Hs := subH_of fun y hy => List.mem_append_right _ (subH_mem h y hy)
theorem hz_ {p q : Prop} (k : q) (h : Wrp q → p := by intro k; (repeat (first | (refine WC.g ?_; first | refine WC.scope ?_ | refine WC.seqRun tab_ok rfl ?_ | refine WC.condF rfl rfl ?_ | refine WC.condT rfl rfl ?_ | refine WC.seq ?_ | refine WC.regRun tab_ok rfl ?_ | refine WC.region ?_ | refine WC.ret ?_ | refine WC.exit ?_ | refine WC.skip ?_ | refine WC.block ?_) | (refine WL.g ?_; first | refine WL.nil ?_ | refine WL.run tab_ok rfl rfl ?_ | (refine WL.gLoad ?_; first | refine WL.ld tab_ok rfl rfl rfl pk_ rfl rfl ?_ | refine WL.ldA tab_ok rfl rfl rfl pk_ cut_ rfl ?_ | refine WL.ldI tab_ok rfl rfl rfl (by assumption) rfl ?_ | refine WL.ldR tab_ok rfl rfl rfl hrd_ rfl ?_ | refine WL.ldAI tab_ok rfl rfl rfl (by assumption) rfl rfl ?_) | (refine WL.gStore ?_; refine WL.st tab_ok rfl rfl rfl pk_ spl_ rfl rfl ?_) | (refine WL.gIdx ?_; refine WL.idx tab_ok rfl rfl rfl rfl (by omega) (by omega) rfl ?_) | (refine WL.gBuild ?_; refine WL.build tab_ok rfl spi_ rfl ?_) | (refine WL.gSlice ?_; first | refine WL.slLo tab_ok rfl rfl rfl rfl (by omega) (by omega) (by omega) rfl ?_ | refine WL.slHi tab_ok rfl rfl rfl rfl (by omega) (by omega) rfl ?_ | refine WL.slLH tab_ok rfl rfl rfl rfl rfl (by omega) (by omega) (by omega) rfl ?_) | (refine WL.gBin ?_; first | refine WL.pure tab_ok (evalP_shl rfl rfl (by omega)) rfl ?_ | refine WL.pure tab_ok (evalP_shr rfl rfl (by omega)) rfl ?_) | refine WL.pure tab_ok rfl rfl ?_ | (refine WL.gGuard ?_; first | refine WL.yes rfl rfl rfl ?_ | refine WL.no rfl rfl rfl rfl rfl ?_ | refine WL.noU rfl rfl rfl rfl ?_)) | (refine WE.g ?_; first | refine WE.then_ ?_ | refine WE.thenX rfl ?_ | refine WE.block_n ?_ | refine WE.block_x ?_ | refine WE.block_y rfl ?_ | refine WE.block_r ?_ | apply WE.drawnL | (apply WE.drawn; exact (by first | exact Env.le.rfl' _ | assumption); exact hsb_) | refine WE.ng_n ?_ | refine WE.ng_r ?_ | refine WE.ng_x ?_ | refine WE.np_n ?_ | refine WE.np_r ?_ | refine WE.np_x ?_))); exact k.out) : p := h ⟨k⟩
theorem jz_ {p q : Prop} (k : q) (h : Wrp q → p := by intro k; (repeat (first | (refine WD.g ?_; first | refine WD.one rfl ?_ | refine WD.done ?_ | (refine WD.gTake ?_; first | refine WD.run tab_ok np_ rfl rfl ?_ | (refine WD.at_ rfl ?_; (first | (refine WT.gLoad ?_; first | refine WT.load np_ rfl rfl hld_ ?_ | refine WT.loadG np_ rfl rfl rfl hld_ ?_) | (refine WT.gIdx ?_; first | refine WT.idx tab_ok np_ rfl rfl rfl rfl rfl (by omega) (by omega) ?_ | refine WT.idxG tab_ok np_ rfl rfl rfl rfl rfl rfl (by omega) (by omega) ?_) | (refine WT.gSlice ?_; refine WT.slLo tab_ok np_ rfl rfl rfl rfl rfl (by omega) (by omega) (by omega) ?_) | (refine WT.gBuild ?_; refine WT.build tab_ok np_ rfl rfl spi_ ?_) | refine WT.pure tab_ok np_ rfl rfl ?_ | refine WT.pureG tab_ok np_ rfl rfl rfl ?_ | refine WT.noG np_ rfl rfl rfl ?_)))) | (refine WL.g ?_; first | refine WL.nil ?_ | refine WL.run tab_ok rfl rfl ?_ | (refine WL.gLoad ?_; first | refine WL.ld tab_ok rfl rfl rfl pk_ rfl rfl ?_ | refine WL.ldA tab_ok rfl rfl rfl pk_ cut_ rfl ?_ | refine WL.ldI tab_ok rfl rfl rfl (by assumption) rfl ?_ | refine WL.ldR tab_ok rfl rfl rfl hrd_ rfl ?_ | refine WL.ldAI tab_ok rfl rfl rfl (by assumption) rfl rfl ?_) | (refine WL.gStore ?_; refine WL.st tab_ok rfl rfl rfl pk_ spl_ rfl rfl ?_) | (refine WL.gIdx ?_; refine WL.idx tab_ok rfl rfl rfl rfl (by omega) (by omega) rfl ?_) | (refine WL.gBuild ?_; refine WL.build tab_ok rfl spi_ rfl ?_) | (refine WL.gSlice ?_; first | refine WL.slLo tab_ok rfl rfl rfl rfl (by omega) (by omega) (by omega) rfl ?_ | refine WL.slHi tab_ok rfl rfl rfl rfl (by omega) (by omega) rfl ?_ | refine WL.slLH tab_ok rfl rfl rfl rfl rfl (by omega) (by omega) (by omega) rfl ?_) | (refine WL.gBin ?_; first | refine WL.pure tab_ok (evalP_shl rfl rfl (by omega)) rfl ?_ | refine WL.pure tab_ok (evalP_shr rfl rfl (by omega)) rfl ?_) | refine WL.pure tab_ok rfl rfl ?_ | (refine WL.gGuard ?_; first | refine WL.yes rfl rfl rfl ?_ | refine WL.no rfl rfl rfl rfl rfl ?_ | refine WL.noU rfl rfl rfl rfl ?_)) | (refine WE.g ?_; first | refine WE.then_ ?_ | refine WE.thenX rfl ?_ | refine WE.block_n ?_ | refine WE.block_x ?_ | refine WE.block_y rfl ?_ | refine WE.block_r ?_ | apply WE.drawnL | (apply WE.drawn; exact (by first | exact Env.le.rfl' _ | assumption); exact hsb_) | refine WE.ng_n ?_ | refine WE.ng_r ?_ | refine WE.ng_x ?_ | refine WE.np_n ?_ | refine WE.np_r ?_ | refine WE.np_x ?_))); exact k.out) : p := h ⟨k⟩
structure NulR (Γ : Env) (pe : Nat) : Prop where
 off : Γ.cell pe 0 = some (.int .u32 0)
 tag : Γ.cell pe (0 + 1) = some (.int .u32 0)
 ch : Γ.cell pe (0 + 2) = some (.bool false)
 fld : Γ.cell pe (0 + 3) = some (.slice none 0 0)
theorem entryNul_ok {Γ : Env} {H F : List Blk} {p pd pu ou base r off : Nat} {vers : Int} {big : Bool} {nm d cu : Value} {post : List Value} {T : TypeId} {l : List UInt8}
  (hp : Pick H p (cel (bufc (.pointer (some ⟨pd, 0, none⟩)) (.bool big) (ufmt pu ou) nm off d .nilIface post) T) F)
  (hd : Byt Γ d (ulebL 0 ++ l)) (hu0 : Rd Γ F pu (ou + 0) (.int .u32 (base : Int))) (hu3 : Rd Γ F pu (ou + 3) (.map (some r))) (hu6 : Rd Γ F pu (ou + 6) (.int .i64 vers)) (hsz : off + 1 + l.length ≤ 2147483648) :
  Spc Tryz.prog 113 #[.pointer (some ⟨p, 0, none⟩), cu, .pointer (some ⟨pu, ou, none⟩)] Γ H (fun v Γ' H' => ∃ pe d', v = .pointer (some ⟨pe, 0, none⟩) ∧ NulR Γ' pe ∧ Byt Γ' d' l ∧
   H' = (p, cel (bufc (.pointer (some ⟨pd, 0, none⟩)) (.bool big) (ufmt pu ou) nm (off + 1) d' .nilIface post) T) :: F) := by
 refine Spc.perm ?_ hp.perm
 have e1 : (ulebL 0).length = 1 := by rw [ulebL_small (by decide)]; rfl
 refine Spc.body3 Tryz.func113 rfl Tryz.ntmps113 rfl ?_
 refine WC.seq ?_
 refine WC.region ?_
 (refine WL.box rfl spi_ rfl ?_; intro b)
 refine gx_ ?_
 refine WC.draw 15 (.take 0 (.take 1 (.take 2 (.take 3 (.take 4 (.take 5 (.take 6 (.take 7 (.take 8 (.take 9 (.take 10 (.take 11 (.one 12 (.one 13 (.one 14 .done))))))))))))))) (F) mixed xsb_ (by decide +kernel) ?_
 refine dx_ ?_
 refine gx_ ?_
 refine WL.call rfl Tryz.call69 rfl rfl (by exact (buf_uleb (k := 0) (by omega) pk_ hd (by omega))) ?_
 rintro _ _ _ - ⟨rfl, rfl, d1, hd1, rfl⟩
 refine gx_ ?_
 (refine WL.box rfl spi_ rfl ?_; intro pe)
 refine gx_ ?_
 refine WE.drop (b := b) pk_ ?_
 refine WE.freeze (b := pe) pk_ (fun hle => ?_)
 rw [e1] at *
 refine end_1 rfl rfl hle ⟨pe, d1, rfl, ⟨?_, ?_, ?_, ?_⟩, hd1.mono hle, rfl⟩
 all_goals (simp [Env.cell, Env.add])
theorem nextNul_ok {Γ : Env} {H F : List Blk} {pr pd pu k off lso : Nat} {big lu lc : Bool} {us : List PU} {u : PU} {l : List UInt8} {d cu : Value}
  (hp : Pick H pr (cel (bufc (.pointer (some ⟨pd, 0, none⟩)) (.bool big) (ufmt pu (k * 9)) (.string sInfo) off d .nilIface (rdp pd .nilIface k lu lc (.int .u32 (lso : Int)) cu)) 258) F)
  (hd : Byt Γ d (ulebL 0 ++ l)) (hR : UnR Γ F big pd pu us) (hu : us[k]? = some u) (hsz : off + 1 + l.length ≤ 2147483648) :
  Spc Tryz.prog 156 #[.pointer (some ⟨pr, 0, none⟩)] Γ H (fun v Γ' H' => ∃ pe d' lso' cu', v = .tuple #[.pointer (some ⟨pe, 0, none⟩), .nilIface] ∧ NulR Γ' pe ∧ Byt Γ' d' l ∧
   H' = (pr, cel (bufc (.pointer (some ⟨pd, 0, none⟩)) (.bool big) (ufmt pu (k * 9)) (.string sInfo) (off + 1) d' .nilIface
    (rdp pd .nilIface k false false (.int .u32 ((lso' : Nat) : Int)) cu')) 258) :: F) := by
 refine Spc.perm ?_ hp.perm
 have hk := (List.getElem?_eq_some_iff.1 hu).1
 obtain ⟨dU, r, es, c, u5, hdU, him, hes, hrd⟩ := hR.cell hu
 have gsl := hR.sl
 have hpos : 0 < (ulebL 0 ++ l).length := by have := ulebL_pos 0; rw [List.length_append]; omega
 have hd0 := hd
 obtain ⟨ad, cd, rfl, hcd, -⟩ := hd
 have e9 : 0 + Int.toNat ((k : Nat) : Int) * 9 = k * 9 := by omega
 refine Spc.body1 Tryz.func156 rfl Tryz.ntmps156 rfl ?_
 refine gz_ ?_
 refine WL.call rfl Tryz.call160 rfl rfl (by exact (maybeNext_ok Pick.here hd0 hpos)) ?_
 rintro _ _ _ - ⟨rfl, rfl, rfl⟩
 refine gz_ ?_
 rw [show ((((ulebL 0 ++ l).length : Nat) : Int) == 0) = false from beq_eq_false_iff_ne.2 (by omega)]
 refine gz_ ?_
 refine WC.draw 13 (.take 0 (.take 1 (.take 2 (.take 3 (.take 4 (.take 5 (.take 6 (.take 7 (.take 8 (.take 9 (.take 10 (.take 11 (.one 12 .done))))))))))))) ((pr, _) :: F) mixed xsb_ (by decide +kernel) ?_
 refine dz_ ?_
 rw [e9]
 refine dz_ ?_
 refine gz_ ?_
 refine WC.draw 10 (.take 0 (.take 1 (.take 2 (.take 3 (.take 4 (.take 5 (.take 7 (.one 6 (.one 8 (.one 9 .done)))))))))) (([] : List Blk)) mixed xsb_ (by decide +kernel) ?_
 refine dz_ ?_
 refine WL.call rfl Tryz.call113 rfl rfl (by exact (entryNul_ok (vers := (u.vers : Int)) Pick.here hd0 (hrd 0 _ rfl) (hrd 3 _ rfl) (hrd 6 _ rfl) hsz)) ?_
 rintro _ Γ1 _ hle ⟨pe, d', rfl, hE, hd', rfl⟩
 refine dz_ ?_
 refine gz_ ?_
 have h1' := hE.tag
 have h2' := hE.ch
 refine gz_ ?_
 exact end_2 rfl rfl rfl hle ⟨pe, d', lso, cu, rfl, hE, hd', rfl⟩
theorem hdz_hsz {u : Uni} {big : Bool} {abo base so lo : Nat} (hT : UniT u) : hdz u big = lsz u.wide + hsz (puU u big abo base so lo) := by
 have h1 := hdB_eq (big := big) (abo := abo) (base := base) (so := so) (lo := lo) hT
 have h2 := hdB_length big (puU u big abo base so lo)
 rw [h1, hdrE_len] at h2
 rw [hdz, hdrE_len, h2]
theorem off_at {big : Bool} {U : List Uni} {k : Nat} {u : Uni} (hT : UniT u) (hk : U[k]? = some u) {i off : Nat} (ho : (plU u big (baseU big U k) (strT (U.take k)).length (linT (U.take k)).length)[i]? = some off) :
  off = offU big (pusU big 0 0 0 0 U) k + offN big U k u i := by
 have h1 := plN_get ho
 rw [nodL_take] at h1
 rw [offU_get (puAt_get hk), ← baseU_eq, h1, hdz_hsz (abo := (abT (U.take k)).length) (base := baseU big U k) (so := (strT (U.take k)).length) (lo := (linT (U.take k)).length) hT]
 show _ = baseU big U k + lsz u.wide + hsz (puAt big U k u) + offN big U k u i
 unfold puAt offN; omega
theorem node_at {big : Bool} {U : List Uni} {k : Nat} {u : Uni} {j : Nat} {x : Nod} (hx : u.nods[j]? = some x) :
  ∃ so lo sb, sb.length = 4 ∧ (puAt big U k u).body.drop (offN big U k u j) = nodE u.vers u.wide u.size big so lo j x sb ++ (puAt big U k u).body.drop (offN big U k u (j + 1)) ∧
   offN big U k u (j + 1) = offN big U k u j + (nodE u.vers u.wide u.size big so lo j x sb).length ∧ offN big U k u (j + 1) ≤ (puAt big U k u).body.length ∧
   so = (strT (U.take k)).length + (textS (u.nods.take j)).length ∧ lo = (linT (U.take k)).length + (textL (u.nods.take j)).length ∧
   sb = fix ((plU u big (baseU big U k) (strT (U.take k)).length (linT (U.take k)).length).getD (aft u.nods j) 0 - baseU big U k) 4 big := by
 have hj := (List.getElem?_eq_some_iff.1 hx).1
 obtain ⟨pre, post, h1, h2⟩ := finL_split (v := u.vers) (w := u.wide) (z := u.size) (big := big) (base := baseU big U k) (pl := plU u big (baseU big U k) (strT (U.take k)).length (linT (U.take k)).length) (all := u.nods)
  (so := (strT (U.take k)).length) (lo := (linT (U.take k)).length) (k := 0) hx
 rw [Nat.zero_add] at h1
 have hB : (puAt big U k u).body = _ := h1
 have h2' : pre.length = offN big U k u j := h2
 have htk : u.nods.take (j + 1) = u.nods.take j ++ [x] := by rw [List.take_add_one, hx]; rfl
 have hl : (u.nods.take j).length = j := by rw [List.length_take]; omega
 have hof : offN big U k u (j + 1) = offN big U k u j + (nodE u.vers u.wide u.size big ((strT (U.take k)).length + (textS (u.nods.take j)).length) ((linT (U.take k)).length + (textL (u.nods.take j)).length) j x
   (fix ((plU u big (baseU big U k) (strT (U.take k)).length (linT (U.take k)).length).getD (aft u.nods j) 0 - baseU big U k) 4 big)).length := by
  rw [nodE_len2 (fix_length _ _ _)]
  unfold offN
  rw [htk, nodL_snoc, sumL_append, hl, Nat.zero_add]
  simp [sumL, sumBy]
 refine ⟨_, _, _, fix_length _ _ _, ?_, hof, ?_, rfl, rfl, rfl⟩
 ·have e1 := drop_at hB h2'.symm
  rw [e1]
  refine congrArg _ (Eq.symm ?_)
  rw [hof, ← List.drop_drop, e1, List.drop_left]
 ·rw [hof, hB, List.length_append, List.length_append, h2']; omega
def nodB (l : Lay) (ds : List Df) (i : Nat) : List UInt8 := (puAt l.big [TU l ds] 0 (TU l ds)).body.drop (offN l.big [TU l ds] 0 (TU l ds) i)
def nodO (l : Lay) (ds : List Df) (i : Nat) : Nat := offU l.big (pusU l.big 0 0 0 0 [TU l ds]) 0 + offN l.big [TU l ds] 0 (TU l ds) i
def eV (v : Int) (x : Nod) (c : Nat) : Option FV := (x.atts.find? fun a => a.attr.toNat == c).map (attFV v 0)
theorem attsI_fv {v : Int} {w : Bool} {z : Int} {big : Bool} {base c : Nat} : ∀ {l : List Att} {so lo : Nat}, ((attsI v w z big base so lo l).find? (isA c)).map Itm.fv = (l.find? fun a => a.attr.toNat == c).map (attFV v base)
 | [], _, _ => rfl
 | a :: l, so, lo => by
  rw [attsI, List.find?_cons, List.find?_cons, show isA c (attI v w z big base so lo a) = (a.attr.toNat == c) from rfl]
  cases a.attr.toNat == c with
  | true => rfl
  | false => exact attsI_fv
structure NE (Γ : Env) (pe off : Nat) (v : Int) (x : Nod) : Prop where
 place : Γ.cell pe 0 = some (.int .u32 (off : Int))
 tag : Γ.cell pe (0 + 1) = some (.int .u32 x.tag)
 ch : Γ.cell pe (0 + 2) = some (.bool x.ch)
 its : ∃ its vers tg c, EntR Γ pe off tg c its vers ∧ its.length < 2147483648 ∧ ∀ c, (its.find? (isA c)).map Itm.fv = eV v x c
theorem NE.mono {Γ Γ' : Env} (hle : Γ.le Γ') {pe off : Nat} {v : Int} {x : Nod} (h : NE Γ pe off v x) : NE Γ' pe off v x := by
 obtain ⟨h1, h2, h3, its, vers, tg, c, h4, h5, h6⟩ := h
 exact ⟨hle.cell h1, hle.cell h2, hle.cell h3, its, vers, tg, c, h4.mono hle, h5, h6⟩
theorem NE.val {Γ : Env} {H : List Blk} {pe off : Nat} {v : Int} {x : Nod} (h : NE Γ pe off v x) (a : Nat) :
  Spc Tryz.prog 65 #[.pointer (some ⟨pe, 0, none⟩), .int .u32 (a : Int)] Γ H (fun r Γ' H' => Γ = Γ' ∧ H = H' ∧ match eV v x a with | none => r = .nilIface | some f => FVal Γ f r) := by
 obtain ⟨its, vers, tg, c, hE, hn, hv⟩ := h.its
 refine (val_ok hE a hn).mono ?_
 rintro r _ _ - ⟨rfl, rfl, hm⟩
 refine ⟨rfl, rfl, ?_⟩
 have := hv a
 rw [← this]
 cases hf : its.find? (isA a) with
 | none => rw [hf] at hm; exact hm
 | some y =>
  rw [hf] at hm
  obtain ⟨t, w, rfl, hw⟩ := hm
  exact hw
structure TX (Γ : Env) (pd pu : Nat) (l : Lay) (ds : List Df) : Prop where
 glob : Glob Γ
 ok : OkDs l ds
 sl : Γ.cell pd 17 = some (.slice (some ⟨pu, 0, none⟩) 1 1)
 str : ∃ v, Γ.cell pd 7 = some v ∧ Byt Γ v (strT [TU l ds])
 lin : ∃ v, Γ.cell pd 9 = some v ∧ Byt Γ v (linT [TU l ds])
 ord : Γ.cell pd 14 = some (.bool l.big)
 inf : (pusB l.big (pusU l.big 0 0 0 0 [TU l ds])).length < 2147483648
 strl : (strT [TU l ds]).length < 2147483648
 linl : (linT [TU l ds]).length < 2147483648
theorem TX.mono {Γ Γ' : Env} (hle : Γ.le Γ') {pd pu : Nat} {l : Lay} {ds : List Df} (h : TX Γ pd pu l ds) : TX Γ' pd pu l ds := by
 obtain ⟨h1, h2, h3, ⟨v, h4, h5⟩, ⟨w, h6, h7⟩, h8, h9, h10, h11⟩ := h
 exact ⟨h1.mono hle, h2, hle.cell h3, ⟨v, hle.cell h4, h5.mono hle⟩, ⟨w, hle.cell h6, h7.mono hle⟩, hle.cell h8, h9, h10, h11⟩
section
variable {Γ : Env} {pd pu : Nat} {l : Lay} {ds : List Df}
theorem TX.base : (pusB l.big ((pusU l.big 0 0 0 0 [TU l ds]).take 0)).length = 0 := rfl
theorem TX.get : (pusU l.big 0 0 0 0 [TU l ds])[0]? = some (puAt l.big [TU l ds] 0 (TU l ds)) := puAt_get rfl
theorem TX.secs (h : TX Γ pd pu l ds) {F : List Blk} : Secs Γ F pd (uctx l.big (strT [TU l ds]) (linT [TU l ds]) (pusB l.big ((pusU l.big 0 0 0 0 [TU l ds]).take 0)).length (puAt l.big [TU l ds] 0 (TU l ds))) := by
 obtain ⟨v, h4, h5⟩ := h.str
 obtain ⟨w, h6, h7⟩ := h.lin
 exact ⟨⟨v, .inl h4, h5⟩, ⟨w, .inl h6, h7⟩, .inl h.ord, h.strl, h.linl⟩
theorem TX.uni (h : TX Γ pd pu l ds) : ∀ u ∈ [TU l ds], UniK u := fun u hu => by rw [List.mem_singleton.1 hu]; exact TU_K h.ok
theorem TX.size (h : TX Γ pd pu l ds) : (puAt l.big [TU l ds] 0 (TU l ds)).size = 4 ∨ (puAt l.big [TU l ds] 0 (TU l ds)).size = 8 := by
 have := h.ok.lay.sz
 show l.size.toNat = 4 ∨ l.size.toNat = 8
 omega
theorem TX.dist : (puAt l.big [TU l ds] 0 (TU l ds)).abs.Pairwise (fun a b => a.code ≠ b.code) := absL_pair
def UX (Γ : Env) (l : Lay) (ds : List Df) (o : Obj) : Prop := ∃ cs, UQs Γ l.big 0 (pusU l.big 0 0 0 0 [TU l ds]) cs ∧ o = cel cs 279
theorem UX.mono {Γ' : Env} (hle : Γ.le Γ') {o : Obj} (h : UX Γ l ds o) : UX Γ' l ds o := by
 obtain ⟨cs, h1, h2⟩ := h
 exact ⟨cs, h1.mono hle, h2⟩
theorem TX.unr (h : TX Γ pd pu l ds) {o : Obj} (hu : UX Γ l ds o) {F F2 : List Blk} (hp : Pick F pu o F2) : UnR Γ F l.big pd pu (pusU l.big 0 0 0 0 [TU l ds]) := by
 obtain ⟨cs, h1, rfl⟩ := hu
 exact ⟨.inl h.sl, cs, F2, hp, h1⟩
def RN (Γ : Env) (pd pu : Nat) (l : Lay) (ds : List Df) (i : Nat) (o : Obj) : Prop := ∃ (d : Value) (lso : Nat) (lu lc : Bool) (cu : Value), Byt Γ d (nodB l ds i) ∧
 o = cel (bufc (.pointer (some ⟨pd, 0, none⟩)) (.bool l.big) (ufmt pu (0 * 9)) (.string sInfo) (nodO l ds i) d .nilIface (rdp pd .nilIface ((0 : Nat) : Int) lu lc (.int .u32 ((lso : Nat) : Int)) cu)) 258
theorem RN.mono {Γ' : Env} (hle : Γ.le Γ') {i : Nat} {o : Obj} (h : RN Γ pd pu l ds i o) : RN Γ' pd pu l ds i o := by
 obtain ⟨d, lso, lu, lc, cu, h1, h2⟩ := h
 exact ⟨d, lso, lu, lc, cu, h1.mono hle, h2⟩
def RF (pd : Nat) (o : Obj) : Prop := ∃ (x0 x1 x2 x3 x4 x5 x6 err : Value) (un : Int) (lu lc : Bool) (lso : Nat),
 o = cel (x0 :: x1 :: x2 :: x3 :: x4 :: x5 :: x6 :: rdp pd err un lu lc (.int .u32 ((lso : Nat) : Int)) (.pointer none)) 258
theorem TX.len (h : TX Γ pd pu l ds) {i : Nat} {x : Nod} (hx : (TU l ds).nods[i]? = some x) : nodO l ds i + (nodB l ds i).length ≤ 2147483648 := by
 obtain ⟨so, lo, sb, hsb, h1, h2, h3, e1, e2, e3⟩ := node_at (big := l.big) (U := [TU l ds]) (k := 0) hx
 have hi := h.inf
 have hst := offU_step (big := l.big) (TX.get (l := l) (ds := ds))
 have e : (pusU l.big 0 0 0 0 [TU l ds]).take (0 + 1) = pusU l.big 0 0 0 0 [TU l ds] := rfl
 rw [e] at hst
 unfold nodO nodB
 rw [List.length_drop]
 omega
theorem TX.null (h : TX Γ pd pu l ds) {i : Nat} {x : Nod} (hx : (TU l ds).nods[i]? = some x) (ht : x.tag = 0) : nodB l ds i = ulebL 0 ++ nodB l ds (i + 1) ∧ nodO l ds (i + 1) = nodO l ds i + 1 := by
 obtain ⟨so, lo, sb, hsb, h1, h2, h3, e1, e2, e3⟩ := node_at (big := l.big) (U := [TU l ds]) (k := 0) hx
 have e0 : nodE (TU l ds).vers (TU l ds).wide (TU l ds).size l.big so lo i x sb = ulebL 0 := by rw [nodE, if_pos ht, ulebL_small (by decide)]; rfl
 rw [e0] at h1 h2
 have e4 : (ulebL 0).length = 1 := by rw [ulebL_small (by decide)]; rfl
 refine ⟨h1, ?_⟩
 unfold nodO
 rw [h2, e4]; omega
theorem TX.node (h : TX Γ pd pu l ds) {i : Nat} {x : Nod} (hx : (TU l ds).nods[i]? = some x) (ht : x.tag ≠ 0) :
  ∃ its, nodB l ds i = ulebL (abbE i x).code ++ (itexts its ++ nodB l ds (i + 1)) ∧ nodO l ds (i + 1) = nodO l ds i + (ulebL (abbE i x).code).length + (itexts its).length ∧
   Die (uctx l.big (strT [TU l ds]) (linT [TU l ds]) 0 (puAt l.big [TU l ds] 0 (TU l ds))) (puAt l.big [TU l ds] 0 (TU l ds)).abs (abbE i x) its ∧ (x.sib = false → ∀ c, (its.find? (isA c)).map Itm.fv = eV l.vers x c) := by
 obtain ⟨so, lo, sb, hsb, h1, h2, h3, e1, e2, e3⟩ := node_at (big := l.big) (U := [TU l ds]) (k := 0) hx
 obtain ⟨pre, post, hb, hpl, hD⟩ := die_at (k := 0) h.uni rfl h.inf h.strl h.linl hx ht
 have hlen : (nodE (TU l ds).vers (TU l ds).wide (TU l ds).size l.big so lo i x sb).length = (ulebL (abbE i x).code).length + (itexts (itsAt l.big [TU l ds] 0 (TU l ds) i x)).length := by
  rw [e3, nodI_text ht, List.length_append, e1, e2]; rfl
 have hd := drop_at hb hpl.symm
 have hpo : nodB l ds (i + 1) = post := by
  unfold nodB
  rw [h2, hlen, ← List.drop_drop, hd, ← List.append_assoc, ← List.length_append, List.drop_left]
 refine ⟨itsAt l.big [TU l ds] 0 (TU l ds) i x, ?_, ?_, hD, fun hs c => ?_⟩
 ·rw [hpo]; exact hd
 ·unfold nodO; rw [h2, hlen]; omega
 ·unfold itsAt nodI
  rw [hs]
  exact attsI_fv
theorem nextN_ok {H F F2 : List Blk} {pr i : Nat} {o ou : Obj} {x : Nod} (h : TX Γ pd pu l ds) (hu : UX Γ l ds ou) (hp : Pick H pr o F) (hq : Pick F pu ou F2) (hR : RN Γ pd pu l ds i o) (hx : (TU l ds).nods[i]? = some x) (ht : 0 < x.tag) (hs : x.sib = false) :
  Spc Tryz.prog 156 #[.pointer (some ⟨pr, 0, none⟩)] Γ H (fun v Γ' H' => ∃ pe o', v = .tuple #[.pointer (some ⟨pe, 0, none⟩), .nilIface] ∧ NE Γ' pe (nodO l ds i) l.vers x ∧ RN Γ' pd pu l ds (i + 1) o' ∧ H' = (pr, o') :: F) := by
 obtain ⟨its, h1, h2, hD, hv⟩ := h.node hx (by omega)
 obtain ⟨d, lso, lu, lc, cu, hd, rfl⟩ := hR
 have hlen := h.len hx
 rw [h1] at hd hlen
 refine (next_ok (k := 0) (u := puAt l.big [TU l ds] 0 (TU l ds)) h.glob hp hd (h.unr hu hq) TX.get h.secs h.size TX.dist hD (by rw [List.length_append, List.length_append] at hlen; omega)).mono ?_
 rintro v Γ' H' hle ⟨pe, d', cu', rfl, hE, hd', hH⟩
 rw [← h2] at hH
 subst hH
 have htg : ((x.tag.toNat : Nat) : Int) = x.tag := by omega
 refine ⟨pe, _, rfl, ⟨hE.off, ?_, hE.ch, its, _, _, _, hE, hD.few, hv hs⟩, ⟨d', _, _, _, cu', hd', rfl⟩, rfl⟩
 have := hE.tag
 rw [show (abbE i x).tag = x.tag.toNat from rfl, htg] at this
 exact this
theorem nextZ_ok {H F F2 : List Blk} {pr i : Nat} {o ou : Obj} {x : Nod} (h : TX Γ pd pu l ds) (hu : UX Γ l ds ou) (hp : Pick H pr o F) (hq : Pick F pu ou F2) (hR : RN Γ pd pu l ds i o) (hx : (TU l ds).nods[i]? = some x) (ht : x.tag = 0) :
  Spc Tryz.prog 156 #[.pointer (some ⟨pr, 0, none⟩)] Γ H (fun v Γ' H' => ∃ pe o', v = .tuple #[.pointer (some ⟨pe, 0, none⟩), .nilIface] ∧ NulR Γ' pe ∧ RN Γ' pd pu l ds (i + 1) o' ∧ H' = (pr, o') :: F) := by
 obtain ⟨h1, h2⟩ := h.null hx ht
 obtain ⟨d, lso, lu, lc, cu, hd, rfl⟩ := hR
 have hlen := h.len hx
 have e4 : (ulebL 0).length = 1 := by rw [ulebL_small (by decide)]; rfl
 rw [h1] at hd hlen
 refine (nextNul_ok (k := 0) (u := puAt l.big [TU l ds] 0 (TU l ds)) hp hd (h.unr hu hq) TX.get (by rw [List.length_append, e4] at hlen; omega)).mono ?_
 rintro v Γ' H' hle ⟨pe, d', lso', cu', rfl, hE, hd', hH⟩
 rw [← h2] at hH
 subst hH
 exact ⟨pe, _, rfl, hE, ⟨d', _, _, _, cu', hd', rfl⟩, rfl⟩
def rtI (ds : List Df) (j : Nat) : Nat := 1 + sumBy nlen (ds.take j)
theorem rootsL_get : ∀ {ds : List Df} {s j : Nat}, j < ds.length → (rootsL s ds)[j]? = some (s + sumBy nlen (ds.take j))
 | [], _, _, h => by simp at h
 | d :: ds, s, 0, _ => by simp [rootsL, sumBy]
 | d :: ds, s, j + 1, h => by
  rw [rootsL, List.getElem?_cons_succ, rootsL_get (by simpa using h), List.take_succ_cons]
  simp only [sumBy, Nat.add_assoc]
theorem bod_get {pl : List Int} : ∀ {ds : List Df} {j k : Nat} {d : Df}, ds[j]? = some d → k < nlen d → (bodN l pl ds)[sumBy nlen (ds.take j) + k]? = (defN l pl d)[k]?
 | [], _, _, _, h, _ => by simp at h
 | e :: ds, 0, k, d, h, hk => by
  injection h with h; subst h
  rw [bodN, List.flatMap_cons, List.take_zero]
  simp only [sumBy, Nat.zero_add]
  rw [List.getElem?_append_left (by rw [defN_length]; exact hk)]
 | e :: ds, j + 1, k, d, h, hk => by
  have ih := bod_get (pl := pl) (k := k) (by simpa using h : ds[j]? = some d) hk
  rw [bodN, List.flatMap_cons, List.take_succ_cons]
  simp only [sumBy]
  rw [List.getElem?_append_right (by rw [defN_length]; omega), defN_length, show nlen e + sumBy nlen (ds.take j) + k - nlen e = sumBy nlen (ds.take j) + k by omega]
  exact ih
theorem nod_get {j k : Nat} {d : Df} (hj : ds[j]? = some d) (hk : k < nlen d) : (TU l ds).nods[rtI ds j + k]? = (defN l (PLI l ds) d)[k]? := by
 show (topN :: (bodN l (PLI l ds) ds ++ [nulN]))[rtI ds j + k]? = _
 rw [rtI, show 1 + sumBy nlen (ds.take j) + k = (sumBy nlen (ds.take j) + k) + 1 by omega, List.getElem?_cons_succ]
 have h := bod_get (l := l) (pl := PLI l ds) hj hk
 have hlt : k < (defN l (PLI l ds) d).length := by rw [defN_length]; exact hk
 rw [List.getElem?_eq_getElem hlt] at h
 rw [List.getElem?_append_left (List.getElem?_eq_some_iff.1 h).1, h, List.getElem?_eq_getElem hlt]
theorem PL_get (h : OkDs l ds) {j : Nat} {d : Df} (hj : ds[j]? = some d) : (PL l ds)[j]? = some (nodO l ds (rtI ds j)) := by
 have hjl := (List.getElem?_eq_some_iff.1 hj).1
 rw [← PL_eq h.lay.sz, List.getElem?_map, rootsL_get hjl, Option.map_some]
 refine congrArg some ?_
 have hn := nod_get (l := l) hj (nlen_pos d)
 have hlt : 0 < (defN l (PLI l ds) d).length := by rw [defN_length]; exact nlen_pos d
 rw [Nat.add_zero, List.getElem?_eq_getElem hlt] at hn
 have hil := (List.getElem?_eq_some_iff.1 hn).1
 have hpl : (plU (TU l ds) l.big 0 0 0).length = (TU l ds).nods.length + 1 := by rw [plU, plN_length, nodL_length]
 obtain ⟨off, ho⟩ : ∃ o, (plU (TU l ds) l.big 0 0 0)[rtI ds j]? = some o := ⟨_, List.getElem?_eq_getElem (by omega)⟩
 have := off_at (big := l.big) (U := [TU l ds]) (k := 0) (TU_K h).toUniT rfl ho
 rw [List.getD_eq_getElem?_getD]
 show ((plU (TU l ds) l.big 0 0 0)[rtI ds j]?).getD 0 = _
 rw [ho, Option.getD_some, this]; rfl
theorem PLI_get (h : OkDs l ds) {j : Nat} {d : Df} (hj : ds[j]? = some d) : (PLI l ds)[j]? = some ((nodO l ds (rtI ds j) : Nat) : Int) := by
 unfold PLI; rw [List.getElem?_map, PL_get h hj]; rfl
theorem seekN_ok {H F F1 : List Blk} {pr j : Nat} {o ou : Obj} {d : Df} (h : TX Γ pd pu l ds) (hu : UX Γ l ds ou) (hp : Pick H pr o F1) (hq : Pick F1 pu ou F) (hR : RF pd o) (hj : ds[j]? = some d) :
  Spc Tryz.prog 71 #[.pointer (some ⟨pr, 0, none⟩), .int .u32 ((nodO l ds (rtI ds j) : Nat) : Int)] Γ H (fun v Γ' H' => v = .tuple #[] ∧ ∃ o' ou', RN Γ' pd pu l ds (rtI ds j) o' ∧ UX Γ' l ds ou' ∧ H' = (pr, o') :: (pu, ou') :: F) := by
 obtain ⟨x0, x1, x2, x3, x4, x5, x6, err, un, lu, lc, lso, rfl⟩ := hR
 obtain ⟨cs, hcs, rfl⟩ := hu
 have hn := nod_get (l := l) hj (nlen_pos d)
 have hlt : 0 < (defN l (PLI l ds) d).length := by rw [defN_length]; exact nlen_pos d
 rw [Nat.add_zero, List.getElem?_eq_getElem hlt] at hn
 obtain ⟨so, lo, sb, hsb, h1, h2, h3, e1, e2, e3⟩ := node_at (big := l.big) (U := [TU l ds]) (k := 0) hn
 have hpos : 0 < (nodE (TU l ds).vers (TU l ds).wide (TU l ds).size l.big so lo (rtI ds j) (defN l (PLI l ds) d)[0] sb).length := by
  rw [nodE]
  have := ulebL_pos (1 + 50 * rtI ds j)
  split
  ·simp
  ·rw [List.length_append]; omega
 have hT : PTop (uctx l.big (strT [TU l ds]) (linT [TU l ds]) (pusB l.big ((pusU l.big 0 0 0 0 [TU l ds]).take 0)).length (puAt l.big [TU l ds] 0 (TU l ds))) (puAt l.big [TU l ds] 0 (TU l ds)) := by
  obtain ⟨pre, post, hb, hpl, hD⟩ := die_at (k := 0) h.uni rfl h.inf h.strl h.linl (i := 0) (x := topN) rfl (by decide)
  have hp0 : pre = [] := List.eq_nil_of_length_eq_zero (by rw [hpl]; rfl)
  subst hp0
  exact ⟨h.size, _, _, post, hb, hD⟩
 refine (seekAt_ok (k := 0) (u := puAt l.big [TU l ds] 0 (TU l ds)) h.glob hp hq hcs h.secs (.inl h.sl) (by show 1 ≤ 2147483647; decide) h.inf TX.get (by unfold nodO; omega) (by unfold nodO; omega) TX.dist hT).mono ?_
 rintro v Γ' H' hle ⟨rfl, cs', d', hcs', hd', rfl⟩
 refine ⟨rfl, _, _, ⟨d', lso, lu, false, .pointer none, ?_, rfl⟩, ⟨cs', hcs', rfl⟩, rfl⟩
 unfold nodB
 rw [show nodO l ds (rtI ds j) - offU l.big (pusU l.big 0 0 0 0 [TU l ds]) 0 = offN l.big [TU l ds] 0 (TU l ds) (rtI ds j) by unfold nodO; omega] at hd'
 exact hd'
end
def tyP (k : Int) : TypeId :=
 if k = 1 then 190 else if k = 2 then 195 else if k = 3 then 197 else if k = 4 then 199 else if k = 5 then 201 else if k = 6 then 205
 else if k = 7 then 203 else if k = 8 then 207 else if k = 9 then 240 else if k = 10 then 212 else if k = 11 then 184 else if k = 12 then 248
 else if k = 13 then 230 else if k = 14 then 233 else if k = 15 then 243 else 250
def tyO (k : Int) : TypeId :=
 if k = 1 then 194 else if k = 2 then 196 else if k = 3 then 198 else if k = 4 then 200 else if k = 5 then 202 else if k = 6 then 206
 else if k = 7 then 204 else if k = 8 then 208 else if k = 9 then 242 else if k = 10 then 215 else if k = 11 then 186 else if k = 12 then 249
 else if k = 13 then 232 else if k = 14 then 236 else if k = 15 then 246 else 251
abbrev sStruct : ByteArray := ⟨#[115, 116, 114, 117, 99, 116]⟩
abbrev sUnion : ByteArray := ⟨#[117, 110, 105, 111, 110]⟩
abbrev sClass : ByteArray := ⟨#[99, 108, 97, 115, 115]⟩
abbrev sConst : ByteArray := ⟨#[99, 111, 110, 115, 116]⟩
abbrev sVolatile : ByteArray := ⟨#[118, 111, 108, 97, 116, 105, 108, 101]⟩
abbrev sRestrict : ByteArray := ⟨#[114, 101, 115, 116, 114, 105, 99, 116]⟩
def kindS (w : Int) : ByteArray := if w = 0 then sStruct else if w = 1 then sUnion else sClass
def qualS (w : Int) : ByteArray := if w = 0 then sConst else if w = 1 then sVolatile else sRestrict
abbrev BM := Nat → Nat → Option Nat
def BM.le (B B' : BM) : Prop := ∀ j k b, B j k = some b → B' j k = some b
theorem BM.le.rfl' (B : BM) : B.le B := fun _ _ _ h => h
theorem BM.le.trans {a b c : BM} (h : a.le b) (k : b.le c) : a.le c := fun x y z e => k x y z (h x y z e)
def BM.put (B : BM) (j k b : Nat) : BM := fun x y => if x = j ∧ y = k then some b else B x y
theorem BM.put_same {B : BM} {j k b : Nat} : (B.put j k b) j k = some b := if_pos ⟨rfl, rfl⟩
theorem BM.put_ne {B : BM} {j k b x y : Nat} (h : ¬ (x = j ∧ y = k)) : (B.put j k b) x y = B x y := if_neg h
theorem BM.put_le {B : BM} {j k b : Nat} (h : B j k = none) : B.le (B.put j k b) := fun x y z e => by
 rw [BM.put_ne]; exact e
 rintro ⟨rfl, rfl⟩; rw [h] at e; cases e
section
variable {Γ : Env} {B : BM} {l : Lay} {ds : List Df}
def KV (Γ : Env) (B : BM) (ds : List Df) (n : Int) (v : Value) : Prop :=
 if n = -3 then ∃ b, v = pkey 135 b
 else if n < 0 then ∃ b, v = pkey 134 b ∧ Γ.imm b = some (cel [.int .i64 0, noStr] 182)
 else ∃ d b, ds[n.toNat]? = some d ∧ B n.toNat 0 = some b ∧ v = pkey (tyP d.kind) b
theorem KV.mono {Γ' : Env} {B' : BM} (hle : Γ.le Γ') (hB : B.le B') {n : Int} {v : Value} (h : KV Γ B ds n v) : KV Γ' B' ds n v := by
 unfold KV at *
 split
 ·next h3 => rw [if_pos h3] at h; exact h
 ·next h3 =>
  rw [if_neg h3] at h
  split
  ·next h0 => rw [if_pos h0] at h; obtain ⟨b, h1, h2⟩ := h; exact ⟨b, h1, hle.imm _ _ h2⟩
  ·next h0 => rw [if_neg h0] at h; obtain ⟨d, b, h1, h2, h4⟩ := h; exact ⟨d, b, h1, hB _ _ _ h2, h4⟩
theorem KV.ex {n : Int} {v : Value} (h : KV Γ B ds n v) : ∃ tp b, v = pkey tp b := by
 unfold KV at h
 split at h
 ·obtain ⟨b, h⟩ := h; exact ⟨_, b, h⟩
 ·split at h
  ·obtain ⟨b, h, -⟩ := h; exact ⟨_, b, h⟩
  ·obtain ⟨d, b, -, -, h⟩ := h; exact ⟨_, b, h⟩
theorem KV.void {b : Nat} (h : Γ.imm b = some (cel [.int .i64 0, noStr] 182)) {n : Int} (h0 : n < 0) (h3 : n ≠ -3) : KV Γ B ds n (pkey 134 b) := by
 unfold KV; rw [if_neg h3, if_pos h0]; exact ⟨b, rfl, h⟩
theorem KV.of {j : Nat} {d : Df} {b : Nat} (hj : ds[j]? = some d) (hb : B j 0 = some b) : KV Γ B ds (j : Int) (pkey (tyP d.kind) b) := by
 unfold KV; rw [if_neg (by omega), if_neg (by omega)]
 exact ⟨d, b, by simpa using hj, by simpa using hb, rfl⟩
def DirC (Γ : Env) (B : BM) (ds : List Df) (j : Nat) (d : Df) (q : Nat) (v : Value) : Prop :=
 if q < d.cnts.length then ∃ b, B j q = some b ∧ v = pkey 184 b else KV Γ B ds d.of v
theorem DirC.mono {Γ' : Env} {B' : BM} (hle : Γ.le Γ') (hB : B.le B') {j : Nat} {d : Df} {q : Nat} {v : Value} (h : DirC Γ B ds j d q v) : DirC Γ' B' ds j d q v := by
 unfold DirC at *
 split
 ·next hq => rw [if_pos hq] at h; obtain ⟨b, h1, h2⟩ := h; exact ⟨b, hB _ _ _ h1, h2⟩
 ·next hq => rw [if_neg hq] at h; exact h.mono hle hB
def ObjA (Γ : Env) (B : BM) (ds : List Df) (j : Nat) (d : Df) (q b : Nat) : Prop :=
 ∃ (z n : Int) (v : Value), d.cnts[q]? = some n ∧ Γ.imm b = some (cel [.int .i64 z, noStr, v, .int .i64 0, .int .i64 n] 186) ∧ DirC Γ B ds j d (q + 1) v
theorem ObjA.mono {Γ' : Env} {B' : BM} (hle : Γ.le Γ') (hB : B.le B') {j : Nat} {d : Df} {q b : Nat} (h : ObjA Γ B ds j d q b) : ObjA Γ' B' ds j d q b := by
 obtain ⟨z, n, v, h1, h2, h3⟩ := h
 exact ⟨z, n, v, h1, hle.imm _ _ h2, h3.mono hle hB⟩
def MemO (Γ : Env) (B : BM) (ds : List Df) (m : Mem) (c : List Value) : Prop := ∃ b v, c = [.pointer (some ⟨b, 0, none⟩)] ∧
 Γ.imm b = some (cel [.string m.name, v, .int .i64 m.off, .int .i64 0, .int .i64 0, .int .i64 0, .int .i64 0] 219) ∧ KV Γ B ds m.of v
def ParO (Γ : Env) (B : BM) (ds : List Df) (p : Int) (c : List Value) : Prop := ∃ v, c = [v] ∧ KV Γ B ds p v
def ConO (Γ : Env) (m : Con) (c : List Value) : Prop := ∃ b, c = [.pointer (some ⟨b, 0, none⟩)] ∧ Γ.imm b = some (cel [.string m.name, .int .i64 m.val] 239)
theorem MemO.mono {Γ' : Env} {B' : BM} (hle : Γ.le Γ') (hB : B.le B') {m : Mem} {c : List Value} (h : MemO Γ B ds m c) : MemO Γ' B' ds m c := by
 obtain ⟨b, v, h1, h2, h3⟩ := h
 exact ⟨b, v, h1, hle.imm _ _ h2, h3.mono hle hB⟩
theorem ParO.mono {Γ' : Env} {B' : BM} (hle : Γ.le Γ') (hB : B.le B') {p : Int} {c : List Value} (h : ParO Γ B ds p c) : ParO Γ' B' ds p c := by
 obtain ⟨v, h1, h3⟩ := h
 exact ⟨v, h1, h3.mono hle hB⟩
theorem ConO.mono {Γ' : Env} (hle : Γ.le Γ') {m : Con} {c : List Value} (h : ConO Γ m c) : ConO Γ' m c := by
 obtain ⟨b, h1, h2⟩ := h
 exact ⟨b, h1, hle.imm _ _ h2⟩
def ObjC (Γ : Env) (B : BM) (l : Lay) (ds : List Df) (j : Nat) (d : Df) (b : Nat) : Prop :=
 if d.kind = 9 then ∃ v, Γ.imm b = some (cel [.int .i64 l.size, noStr, v] 242) ∧ KV Γ B ds d.of v
 else if d.kind = 10 then ∃ vs, Γ.imm b = some (cel [.int .i64 (if d.inc then -1 else d.size), noStr, .string d.name, .string (kindS d.which), vs, .bool d.inc] 215) ∧ Arr Γ (MemO Γ B ds) vs d.mems
 else if d.kind = 11 then ObjA Γ B ds j d 0 b
 else if d.kind = 12 then ∃ z v, Γ.imm b = some (cel [.int .i64 z, .string d.name, v] 249) ∧ KV Γ B ds d.of v
 else if d.kind = 13 then ∃ z v, Γ.imm b = some (cel [.int .i64 z, noStr, .string (qualS d.which), v] 232) ∧ KV Γ B ds d.of v
 else if d.kind = 14 then ∃ vs, Γ.imm b = some (cel [.int .i64 d.size, noStr, .string d.name, vs] 236) ∧ Arr Γ (ConO Γ) vs d.cons
 else if d.kind = 15 then ∃ v vs, Γ.imm b = some (cel [.int .i64 (-1), noStr, v, vs] 246) ∧ KV Γ B ds d.of v ∧ Arr Γ (ParO Γ B ds) vs d.pars
 else if d.kind = 16 then Γ.imm b = some (cel [.int .i64 (-1), .string d.name, .int .i64 0, .int .i64 0, .int .i64 0] 251)
 else Γ.imm b = some (cel [.int .i64 d.size, .string d.name, .int .i64 0, .int .i64 0, .int .i64 0] (tyO d.kind))
theorem ObjC.mono {Γ' : Env} {B' : BM} (hle : Γ.le Γ') (hB : B.le B') {j : Nat} {d : Df} {b : Nat} (h : ObjC Γ B l ds j d b) : ObjC Γ' B' l ds j d b := by
 unfold ObjC at h ⊢
 by_cases h9 : d.kind = 9
 ·rw [if_pos h9] at h ⊢
  obtain ⟨v, h1, h2⟩ := h; exact ⟨v, hle.imm _ _ h1, h2.mono hle hB⟩
 rw [if_neg h9] at h ⊢
 by_cases h10 : d.kind = 10
 ·rw [if_pos h10] at h ⊢
  obtain ⟨vs, h1, h3⟩ := h; exact ⟨vs, hle.imm _ _ h1, h3.mono hle fun _ _ h => h.mono hle hB⟩
 rw [if_neg h10] at h ⊢
 by_cases h11 : d.kind = 11
 ·rw [if_pos h11] at h ⊢
  exact h.mono hle hB
 rw [if_neg h11] at h ⊢
 by_cases h12 : d.kind = 12
 ·rw [if_pos h12] at h ⊢
  obtain ⟨z, v, h1, h2⟩ := h; exact ⟨z, v, hle.imm _ _ h1, h2.mono hle hB⟩
 rw [if_neg h12] at h ⊢
 by_cases h13 : d.kind = 13
 ·rw [if_pos h13] at h ⊢
  obtain ⟨z, v, h1, h2⟩ := h; exact ⟨z, v, hle.imm _ _ h1, h2.mono hle hB⟩
 rw [if_neg h13] at h ⊢
 by_cases h14 : d.kind = 14
 ·rw [if_pos h14] at h ⊢
  obtain ⟨vs, h1, h2⟩ := h; exact ⟨vs, hle.imm _ _ h1, h2.mono hle fun _ _ h => h.mono hle⟩
 rw [if_neg h14] at h ⊢
 by_cases h15 : d.kind = 15
 ·rw [if_pos h15] at h ⊢
  obtain ⟨v, vs, h1, h2, h3⟩ := h; exact ⟨v, vs, hle.imm _ _ h1, h2.mono hle hB, h3.mono hle fun _ _ h => h.mono hle hB⟩
 rw [if_neg h15] at h ⊢
 by_cases h16 : d.kind = 16
 ·rw [if_pos h16] at h ⊢
  exact hle.imm _ _ h
 rw [if_neg h16] at h ⊢
 exact hle.imm _ _ h
theorem ObjC.imm {j : Nat} {d : Df} {b : Nat} (h : ObjC Γ B l ds j d b) : ∃ c t, Γ.imm b = some (cel c t) := by
 unfold ObjC ObjA at h
 repeat' split at h
 all_goals first
  | exact ⟨_, _, h⟩
  | (obtain ⟨_, h, _⟩ := h; exact ⟨_, _, h⟩)
  | (obtain ⟨_, h⟩ := h; exact ⟨_, _, h⟩)
  | (obtain ⟨_, _, h, _⟩ := h; exact ⟨_, _, h⟩)
  | (obtain ⟨_, _, _, h, _⟩ := h; exact ⟨_, _, h⟩)
  | (obtain ⟨_, _, _, _, h, _⟩ := h; exact ⟨_, _, h⟩)
def CaM (B : BM) (l : Lay) (ds : List Df) (es : List MapEntry) : Prop := keysOf .u32 es ∧ ∀ j d, ds[j]? = some d →
 match mfind ((nodO l ds (rtI ds j) : Nat) : Int) es 0 with
 | none => B j 0 = none
 | some (_, v) => ∃ b, B j 0 = some b ∧ v = pkey (tyP d.kind) b
abbrev TDs := List (Nat × ByteArray × Value)
def tdB (td : TDs) : List Blk := td.map fun x => (x.1, cel [.int .i64 (-1), .string x.2.1, x.2.2] 249)
def tdP (td : TDs) : List Value := td.map fun x => .pointer (some ⟨x.1, 0, none⟩)
def missL (B : BM) (n : Nat) : Nat := ((List.range n).filter fun j => (B j 0).isNone).length
theorem filter_le {α : Type} {p q : α → Bool} (h : ∀ x, q x = true → p x = true) : ∀ l : List α, (l.filter q).length ≤ (l.filter p).length
 | [] => Nat.le_refl _
 | x :: l => by
  have ih := filter_le h l
  rw [List.filter_cons, List.filter_cons]
  cases hq : q x with
  | true => rw [h x hq]; simp only [if_true, List.length_cons]; omega
  | false =>
   cases p x with
   | true => simp only [if_true, Bool.false_eq_true, if_false, List.length_cons]; omega
   | false => simpa using ih
theorem filter_lt {α : Type} {p q : α → Bool} (h : ∀ x, q x = true → p x = true) : ∀ {l : List α} {y : α}, y ∈ l → p y = true → q y = false → (l.filter q).length < (l.filter p).length
 | [], _, hm, _, _ => by cases hm
 | x :: l, y, hm, hp, hq => by
  rw [List.filter_cons, List.filter_cons]
  rcases List.mem_cons.1 hm with rfl | hm
  ·rw [hp, hq]
   have := filter_le h l
   simp only [if_true, Bool.false_eq_true, if_false, List.length_cons]; omega
  ·have ih := filter_lt h hm hp hq
   cases hqx : q x with
   | true => rw [h x hqx]; simp only [if_true, List.length_cons]; omega
   | false =>
    cases p x with
    | true => simp only [if_true, Bool.false_eq_true, if_false, List.length_cons]; omega
    | false => simpa using ih
theorem missL_le {B' : BM} (h : B.le B') (n : Nat) : missL B' n ≤ missL B n := filter_le (fun x hx => by
 cases e : B x 0 with
 | none => rfl
 | some b => rw [h _ _ _ e] at hx; cases hx) _
theorem missL_put {j b n : Nat} (h : B j 0 = none) (hj : j < n) : missL (B.put j 0 b) n < missL B n := filter_lt (fun x hx => by
 cases e : B x 0 with
 | none => rfl
 | some c => rw [BM.put_le h _ _ _ e] at hx; cases hx) (List.mem_range.2 hj) (by rw [h]; rfl) (by rw [BM.put_same]; rfl)
structure TS (Γ : Env) (l : Lay) (ds : List Df) (O : List Nat) (B : BM) (es : List MapEntry) (td : TDs) : Prop where
 map : CaM B l ds es
 lt : ∀ j k b, B j k = some b → j < ds.length
 top : ∀ j k b, B j k = some b → ∃ b0, B j 0 = some b0
 inj : ∀ j k j' k' b, B j k = some b → B j' k' = some b → j = j' ∧ k = k'
 done : ∀ j d b, ds[j]? = some d → B j 0 = some b → j ∉ O → ObjC Γ B l ds j d b ∨ (d.kind = 12 ∧ ∃ v, (b, d.name, v) ∈ td ∧ KV Γ B ds d.of v)
 dir : ∀ j k b, B j (k + 1) = some b → ∃ d, ds[j]? = some d ∧ d.kind = 11 ∧ ObjA Γ B ds j d (k + 1) b
 tds : ∀ x ∈ td, ∃ j d, ds[j]? = some d ∧ B j 0 = some x.1 ∧ d.kind = 12 ∧ x.2.1 = d.name ∧ KV Γ B ds d.of x.2.2
 few : td.length + missL B ds.length + O.length ≤ ds.length
theorem TS.mono {Γ' : Env} (hle : Γ.le Γ') {O : List Nat} {es : List MapEntry} {td : TDs} (h : TS Γ l ds O B es td) : TS Γ' l ds O B es td := by
 obtain ⟨h1, h2, h0, h3, h4, h5, h6, h7⟩ := h
 refine ⟨h1, h2, h0, h3, fun j d b hj hb hO => ?_, fun j k b hb => ?_, fun x hx => ?_, h7⟩
 ·rcases h4 j d b hj hb hO with h | ⟨h, v, g1, g2⟩
  ·exact .inl (h.mono hle (BM.le.rfl' _))
  ·exact .inr ⟨h, v, g1, g2.mono hle (BM.le.rfl' _)⟩
 ·obtain ⟨d, g1, g2, g3⟩ := h5 j k b hb
  exact ⟨d, g1, g2, g3.mono hle (BM.le.rfl' _)⟩
 ·obtain ⟨j, d, g1, g2, g3, g4, g5⟩ := h6 x hx
  exact ⟨j, d, g1, g2, g3, g4, g5.mono hle (BM.le.rfl' _)⟩
def OpL (Γ : Env) (F : List Blk) (O : List Nat) (B : BM) : Prop := ∀ j ∈ O, ∃ b, B j 0 = some b ∧ Lv Γ F b
theorem OpL.mono {Γ' : Env} {B' : BM} (hle : Γ.le Γ') (hB : B.le B') {F : List Blk} {O : List Nat} (h : OpL Γ F O B) : OpL Γ' F O B' := fun j hj => by
 obtain ⟨b, h1, h2⟩ := h j hj
 exact ⟨b, hB _ _ _ h1, h2.mono hle⟩
theorem OpL.app {F G : List Blk} {O : List Nat} (h : OpL Γ F O B) : OpL Γ (G ++ F) O B := fun j hj => by
 obtain ⟨b, h1, h2⟩ := h j hj
 exact ⟨b, h1, h2.app⟩
theorem OpL.cons {F : List Blk} {x : Blk} {O : List Nat} (h : OpL Γ F O B) : OpL Γ (x :: F) O B := OpL.app (G := [x]) h
theorem tdB_mem {td : TDs} {x : Nat × ByteArray × Value} (h : x ∈ td) : x.1 ∈ (tdB td).map Prod.fst := by
 unfold tdB
 rw [List.map_map, List.mem_map]
 exact ⟨x, h, rfl⟩
theorem TS.live {O : List Nat} {es : List MapEntry} {td : TDs} {F H : List Blk} (h : TS Γ l ds O B es td) (ho : OpL Γ F O B) (hF : ∀ b, b ∈ F.map Prod.fst → b ∈ H.map Prod.fst) (hT : ∀ b, b ∈ (tdB td).map Prod.fst → b ∈ H.map Prod.fst) {j k b : Nat} (hb : B j k = some b) : Lv Γ H b := by
 have hj := h.lt j k b hb
 obtain ⟨d, hd⟩ : ∃ d, ds[j]? = some d := ⟨_, List.getElem?_eq_getElem hj⟩
 cases k with
 | succ k =>
  obtain ⟨d, -, -, z, n, v, -, h2, -⟩ := h.dir j k b hb
  exact .inl (by rw [h2]; intro e; cases e)
 | zero =>
  by_cases hO : j ∈ O
  ·obtain ⟨b', h1, h2⟩ := ho j hO
   rw [hb] at h1; injection h1 with h1; subst h1
   rcases h2 with h2 | h2
   ·exact .inl h2
   ·exact .inr (hF _ h2)
  ·rcases h.done j d b hd hb hO with h1 | ⟨-, v, h1, -⟩
   ·obtain ⟨c, t, h2⟩ := h1.imm
    exact .inl (by rw [h2]; intro e; cases e)
   ·exact .inr (hT _ (tdB_mem h1))
theorem mfind_hit {z : Int} {kk : IntKind} {v : Value} {c : Nat} : ∀ {es : List MapEntry} {i : Nat}, keysOf kk es → mfind z es i = none → ∃ q, mfind z (es ++ [MapEntry.mk (.int kk z) v c]) i = some (q, v)
 | [], i, _, _ => by
  refine ⟨i, ?_⟩
  simp [mfind]
 | x :: es, i, hk, h => by
  obtain ⟨y, hy⟩ := hk x (List.mem_cons_self ..)
  simp only [List.cons_append, mfind, hy] at h ⊢
  cases hb : z == y with
  | true => rw [hb] at h; simp at h
  | false => rw [hb] at h; exact mfind_hit (fun e he => hk e (List.mem_cons_of_mem _ he)) (by simpa using h)
theorem mfind_other {z y : Int} {kk : IntKind} {v : Value} {c : Nat} (hne : z ≠ y) : ∀ {es : List MapEntry} {i : Nat}, keysOf kk es → mfind z (es ++ [MapEntry.mk (.int kk y) v c]) i = mfind z es i
 | [], i, _ => by
  simp only [List.nil_append, mfind]
  rw [show (z == y) = false from beq_eq_false_iff_ne.2 hne]; rfl
 | x :: es, i, hk => by
  obtain ⟨y', hy⟩ := hk x (List.mem_cons_self ..)
  simp only [List.cons_append, mfind, hy]
  rw [mfind_other hne (fun e he => hk e (List.mem_cons_of_mem _ he))]
theorem sumBy_take_lt {α : Type} {f : α → Nat} (hf : ∀ x, 0 < f x) : ∀ {l : List α} {i j : Nat}, i < j → j ≤ l.length → sumBy f (l.take i) < sumBy f (l.take j)
 | [], i, j, h, hj => by simp at hj; omega
 | x :: l, 0, j + 1, _, _ => by
  rw [List.take_succ_cons, List.take_zero]
  simp only [sumBy]
  have := hf x; omega
 | x :: l, i + 1, j + 1, h, hj => by
  rw [List.take_succ_cons, List.take_succ_cons]
  simp only [sumBy]
  have := @sumBy_take_lt α f hf l i j (by omega) (by simpa using hj)
  omega
theorem nodO_step {i : Nat} (h : i < (TU l ds).nods.length) : nodO l ds i < nodO l ds (i + 1) := by
 have hx := List.getElem?_eq_getElem h
 obtain ⟨so, lo, sb, hsb, h1, h2, h3, e1, e2, e3⟩ := node_at (big := l.big) (U := [TU l ds]) (k := 0) hx
 have hpos : 0 < (nodE (TU l ds).vers (TU l ds).wide (TU l ds).size l.big so lo i (TU l ds).nods[i] sb).length := by
  rw [nodE]
  have := ulebL_pos (1 + 50 * i)
  split
  ·simp
  ·rw [List.length_append]; omega
 unfold nodO; omega
theorem nodO_lt : ∀ {j i : Nat}, i < j → j ≤ (TU l ds).nods.length → nodO l ds i < nodO l ds j
 | 0, _, h, _ => by omega
 | j + 1, i, h, hj => by
  have h1 := nodO_step (l := l) (ds := ds) (i := j) (by omega)
  rcases Nat.lt_or_ge i j with hlt | hge
  ·have := nodO_lt hlt (by omega); omega
  ·have : i = j := by omega
   subst this; exact h1
theorem rtI_lt {j : Nat} {d : Df} (hj : ds[j]? = some d) : rtI ds j < (TU l ds).nods.length := by
 have hn := nod_get (l := l) hj (nlen_pos d)
 have hlt : 0 < (defN l (PLI l ds) d).length := by rw [defN_length]; exact nlen_pos d
 rw [Nat.add_zero, List.getElem?_eq_getElem hlt] at hn
 exact (List.getElem?_eq_some_iff.1 hn).1
theorem nodO_ne {i j : Nat} {d e : Df} (hi : ds[i]? = some d) (hj : ds[j]? = some e) (hne : i ≠ j) : nodO l ds (rtI ds i) ≠ nodO l ds (rtI ds j) := by
 have hil := (List.getElem?_eq_some_iff.1 hi).1
 have hjl := (List.getElem?_eq_some_iff.1 hj).1
 have ri := rtI_lt (l := l) hi
 have rj := rtI_lt (l := l) hj
 rcases Nat.lt_or_ge i j with h | h
 ·have h1 : rtI ds i < rtI ds j := by
   have := @sumBy_take_lt Df nlen nlen_pos ds i j h (by omega)
   unfold rtI; omega
  have := nodO_lt (l := l) (ds := ds) h1 (by omega); omega
 ·have h1 : rtI ds j < rtI ds i := by
   have := @sumBy_take_lt Df nlen nlen_pos ds j i (by omega) (by omega)
   unfold rtI; omega
  have := nodO_lt (l := l) (ds := ds) h1 (by omega); omega
theorem TS.open_ {O : List Nat} {es : List MapEntry} {td : TDs} {j b c : Nat} {d : Df} (h : TS Γ l ds O B es td) (hj : ds[j]? = some d) (hB : B j 0 = none) (hf : ∀ x y z, B x y = some z → z ≠ b) :
  TS Γ l ds (j :: O) (B.put j 0 b) (es ++ [MapEntry.mk (.int .u32 ((nodO l ds (rtI ds j) : Nat) : Int)) (pkey (tyP d.kind) b) c]) td := by
 have hle := BM.put_le (b := b) hB
 obtain ⟨⟨hk, hm⟩, hlt, htop, hinj, hdone, hdir, htd, hfew⟩ := h
 have hms := missL_put (b := b) hB (List.getElem?_eq_some_iff.1 hj).1
 refine ⟨⟨fun e he => ?_, fun j' d' hj' => ?_⟩, fun x y z e => ?_, fun x y z e => ?_, fun x y x' y' z e e' => ?_, fun x d' z hx e hO => ?_, fun x y z e => ?_, fun x hx => ?_, by rw [List.length_cons]; omega⟩
 ·rcases List.mem_append.1 he with he | he
  ·exact hk e he
  ·rw [List.mem_singleton] at he; subst he; exact ⟨_, rfl⟩
 ·by_cases hjj : j' = j
  ·subst hjj
   rw [hj] at hj'; injection hj' with hj'; subst hj'
   have hn : mfind ((nodO l ds (rtI ds j') : Nat) : Int) es 0 = none := by
    have := hm j' d hj
    cases e : mfind ((nodO l ds (rtI ds j') : Nat) : Int) es 0 with
    | none => rfl
    | some p =>
     obtain ⟨q, v⟩ := p
     rw [e] at this
     obtain ⟨b', h1, -⟩ := this
     rw [hB] at h1; cases h1
   obtain ⟨q, hq⟩ := mfind_hit (v := pkey (tyP d.kind) b) (c := c) hk hn
   rw [hq]
   exact ⟨b, BM.put_same, rfl⟩
  ·have hne : ((nodO l ds (rtI ds j') : Nat) : Int) ≠ ((nodO l ds (rtI ds j) : Nat) : Int) := by
    have := nodO_ne (l := l) hj' hj hjj
    omega
   rw [mfind_other hne hk, BM.put_ne (fun hc => hjj hc.1)]
   exact hm j' d' hj'
 ·by_cases hc : x = j ∧ y = 0
  ·rw [hc.1]; exact (List.getElem?_eq_some_iff.1 hj).1
  ·rw [BM.put_ne hc] at e; exact hlt x y z e
 ·by_cases hx : x = j
  ·rw [hx]; exact ⟨b, BM.put_same⟩
  ·rw [BM.put_ne (fun hc => hx hc.1)] at e
   obtain ⟨b0, h0⟩ := htop x y z e
   exact ⟨b0, hle _ _ _ h0⟩
 ·by_cases hc : x = j ∧ y = 0
  ·by_cases hc' : x' = j ∧ y' = 0
   ·exact ⟨hc.1.trans hc'.1.symm, hc.2.trans hc'.2.symm⟩
   ·rw [hc.1, hc.2, BM.put_same] at e
    rw [BM.put_ne hc'] at e'
    injection e with e; subst e
    exact absurd rfl (hf _ _ _ e')
  ·rw [BM.put_ne hc] at e
   by_cases hc' : x' = j ∧ y' = 0
   ·rw [hc'.1, hc'.2, BM.put_same] at e'
    injection e' with e'; subst e'
    exact absurd rfl (hf _ _ _ e)
   ·rw [BM.put_ne hc'] at e'; exact hinj _ _ _ _ _ e e'
 ·rw [List.mem_cons, not_or] at hO
  rw [BM.put_ne (fun hc => hO.1 hc.1)] at e
  rcases hdone x d' z hx e hO.2 with h | ⟨h, v, g1, g2⟩
  ·exact .inl (h.mono (Env.le.rfl' _) hle)
  ·exact .inr ⟨h, v, g1, g2.mono (Env.le.rfl' _) hle⟩
 ·rw [BM.put_ne (fun hc => by cases hc.2)] at e
  obtain ⟨d', g1, g2, g3⟩ := hdir x y z e
  exact ⟨d', g1, g2, g3.mono (Env.le.rfl' _) hle⟩
 ·obtain ⟨j', d', g1, g2, g3, g4, g5⟩ := htd x hx
  exact ⟨j', d', g1, hle _ _ _ g2, g3, g4, g5.mono (Env.le.rfl' _) hle⟩
theorem TS.close {O : List Nat} {es : List MapEntry} {td : TDs} {j b : Nat} {d : Df} (h : TS Γ l ds (j :: O) B es td) (hj : ds[j]? = some d) (hb : B j 0 = some b) (ho : ObjC Γ B l ds j d b) : TS Γ l ds O B es td := by
 obtain ⟨h1, h2, h0, h3, h4, h5, h6, h7⟩ := h
 refine ⟨h1, h2, h0, h3, fun x d' z hx e hO => ?_, h5, h6, by rw [List.length_cons] at h7; omega⟩
 by_cases hc : x = j
 ·subst hc
  rw [hj] at hx; injection hx with hx; subst hx
  rw [hb] at e; injection e with e; subst e
  exact .inl ho
 ·exact h4 x d' z hx e fun hm => by
   rcases List.mem_cons.1 hm with hm | hm
   ·exact hc hm
   ·exact hO hm
theorem TS.closeT {O : List Nat} {es : List MapEntry} {td : TDs} {j b : Nat} {d : Df} {v : Value} (h : TS Γ l ds (j :: O) B es td) (hj : ds[j]? = some d) (hb : B j 0 = some b) (h12 : d.kind = 12) (ho : KV Γ B ds d.of v) : TS Γ l ds O B es (td ++ [(b, d.name, v)]) := by
 obtain ⟨h1, h2, h0, h3, h4, h5, h6, h7⟩ := h
 refine ⟨h1, h2, h0, h3, fun x d' z hx e hO => ?_, h5, fun x hx => ?_, by rw [List.length_cons] at h7; rw [List.length_append, List.length_singleton]; omega⟩
 ·by_cases hc : x = j
  ·subst hc
   rw [hj] at hx; injection hx with hx; subst hx
   rw [hb] at e; injection e with e; subst e
   exact .inr ⟨h12, v, List.mem_append_right _ (List.mem_singleton.2 rfl), ho⟩
  ·rcases h4 x d' z hx e (fun hm => by
    rcases List.mem_cons.1 hm with hm | hm
    ·exact hc hm
    ·exact hO hm) with h | ⟨h, v', g1, g2⟩
   ·exact .inl h
   ·exact .inr ⟨h, v', List.mem_append_left _ g1, g2⟩
 ·rcases List.mem_append.1 hx with hx | hx
  ·exact h6 x hx
  ·rw [List.mem_singleton] at hx; subst hx
   exact ⟨j, d, hj, hb, h12, rfl, ho⟩
theorem TS.dir_ {O : List Nat} {es : List MapEntry} {td : TDs} {j k b : Nat} {d : Df} (h : TS Γ l ds O B es td) (hj : ds[j]? = some d) (h11 : d.kind = 11) (hB : B j (k + 1) = none) (hB0 : ∃ b0, B j 0 = some b0) (hf : ∀ x y z, B x y = some z → z ≠ b) (ho : ObjA Γ B ds j d (k + 1) b) :
  TS Γ l ds O (B.put j (k + 1) b) es td := by
 have hle := BM.put_le (b := b) hB
 have h0 : ∀ x, (B.put j (k + 1) b) x 0 = B x 0 := fun x => BM.put_ne (fun hc => by cases hc.2)
 obtain ⟨⟨hk, hm⟩, hlt, htop, hinj, hdone, hdir, htd, hfew⟩ := h
 have hms := missL_le hle ds.length
 refine ⟨⟨hk, fun j' d' hj' => ?_⟩, fun x y z e => ?_, fun x y z e => ?_, fun x y x' y' z e e' => ?_, fun x d' z hx e hO => ?_, fun x y z e => ?_, fun x hx => ?_, by omega⟩
 ·rw [h0]; exact hm j' d' hj'
 ·by_cases hc : x = j ∧ y = k + 1
  ·rw [hc.1]; exact (List.getElem?_eq_some_iff.1 hj).1
  ·rw [BM.put_ne hc] at e; exact hlt x y z e
 ·rw [h0]
  by_cases hc : x = j ∧ y = k + 1
  ·rw [hc.1]; exact hB0
  ·rw [BM.put_ne hc] at e; exact htop x y z e
 ·by_cases hc : x = j ∧ y = k + 1
  ·by_cases hc' : x' = j ∧ y' = k + 1
   ·exact ⟨hc.1.trans hc'.1.symm, hc.2.trans hc'.2.symm⟩
   ·rw [hc.1, hc.2, BM.put_same] at e
    rw [BM.put_ne hc'] at e'
    injection e with e; subst e
    exact absurd rfl (hf _ _ _ e')
  ·rw [BM.put_ne hc] at e
   by_cases hc' : x' = j ∧ y' = k + 1
   ·rw [hc'.1, hc'.2, BM.put_same] at e'
    injection e' with e'; subst e'
    exact absurd rfl (hf _ _ _ e)
   ·rw [BM.put_ne hc'] at e'; exact hinj _ _ _ _ _ e e'
 ·rw [h0] at e
  rcases hdone x d' z hx e hO with h | ⟨h, v, g1, g2⟩
  ·exact .inl (h.mono (Env.le.rfl' _) hle)
  ·exact .inr ⟨h, v, g1, g2.mono (Env.le.rfl' _) hle⟩
 ·by_cases hc : x = j ∧ y + 1 = k + 1
  ·obtain ⟨rfl, hc⟩ := hc
   have hc : y = k := by omega
   subst hc
   rw [BM.put_same] at e; injection e with e; subst e
   exact ⟨d, hj, h11, ho.mono (Env.le.rfl' _) hle⟩
  ·rw [BM.put_ne hc] at e
   obtain ⟨d', g1, g2, g3⟩ := hdir x y z e
   exact ⟨d', g1, g2, g3.mono (Env.le.rfl' _) hle⟩
 ·obtain ⟨j', d', g1, g2, g3, g4, g5⟩ := htd x hx
  exact ⟨j', d', g1, hle _ _ _ g2, g3, g4, g5.mono (Env.le.rfl' _) hle⟩
def BM.ext (O : List Nat) (B B' : BM) : Prop := B.le B' ∧ ∀ j ∈ O, ∀ k, B' j k = B j k
theorem BM.ext.rfl' (O : List Nat) (B : BM) : BM.ext O B B := ⟨BM.le.rfl' _, fun _ _ _ => rfl⟩
theorem BM.ext.trans {O : List Nat} {a b c : BM} (h : BM.ext O a b) (k : BM.ext O b c) : BM.ext O a c := ⟨h.1.trans k.1, fun j hj q => (k.2 j hj q).trans (h.2 j hj q)⟩
theorem BM.ext.sub {O O' : List Nat} {a b : BM} (h : BM.ext O a b) (hs : ∀ x ∈ O', x ∈ O) : BM.ext O' a b := ⟨h.1, fun j hj q => h.2 j (hs j hj) q⟩
theorem BM.ext_put {O : List Nat} {j k b : Nat} (h : B j k = none) (hO : j ∉ O) : BM.ext O B (B.put j k b) := ⟨BM.put_le h, fun x hx q => BM.put_ne fun hc => hO (hc.1 ▸ hx)⟩
end
def eA (v : Int) (l : List Att) (c : Nat) : Option FV := (l.find? fun a => a.attr.toNat == c).map (attFV v 0)
section
variable {v : Int} {c : Nat} {l : Lay} {ds : List Df}
theorem eA_nil : eA v [] c = none := rfl
theorem eA_ne {a : Att} {r : List Att} (h : a.attr.toNat ≠ c) : eA v (a :: r) c = eA v r c := by
 unfold eA
 rw [List.find?_cons, show (a.attr.toNat == c) = false from beq_eq_false_iff_ne.2 h]
theorem eA_eq {a : Att} {r : List Att} (h : a.attr.toNat = c) : eA v (a :: r) c = some (attFV v 0 a) := by
 unfold eA
 rw [List.find?_cons, show (a.attr.toNat == c) = true from beq_iff_eq.2 h]; rfl
theorem fv_name {s : ByteArray} : attFV v 0 (nameA s) = .s s := by simp [attFV, nameA, clsOf]
theorem i64_u64n {z : Int} (h0 : -9223372036854775808 ≤ z) (h1 : z < 9223372036854775808) : i64w (u64n z) = z := by
 unfold i64w u64n; rw [Go.Sl.w64]; omega
theorem fv_num {a f n : Int} (hf : f = 15 ∨ f = 13 ∨ f = 11) (h0 : -9223372036854775808 ≤ n) (h1 : n < 9223372036854775808) : attFV v 0 ⟨a, f, false, u64n n, noS, []⟩ = .i n := by
 have hc : (clsOf v a f).1 = 3 := by rcases hf with rfl | rfl | rfl <;> simp [clsOf]
 unfold attFV
 simp only [hc, i64_u64n h0 h1]
 rfl
theorem fv_inc : attFV v 0 incA = .b true := by simp [attFV, incA, clsOf]
theorem fv_ref {f : Int} {n : Nat} (hf : f = 16 ∨ f = 19) : attFV v 0 ⟨73, f, false, n, noS, []⟩ = .o n := by
 rcases hf with rfl | rfl <;> simp [attFV, clsOf]
theorem eA_of_ne {pl : List Int} {n : Int} {r : List Att} (h : c ≠ 73) : eA v (ofT l pl n ++ r) c = eA v r c := by
 unfold ofT
 split
 ·rfl
 ·exact eA_ne (by show (73 : Int).toNat ≠ c; exact fun e => h e.symm)
theorem eA_of_ne' {pl : List Int} {n : Int} (h : c ≠ 73) : eA v (ofT l pl n) c = none := by
 have := eA_of_ne (v := v) (l := l) (pl := pl) (n := n) (r := []) h
 rwa [List.append_nil] at this
theorem eA_name {s : ByteArray} {r : List Att} : eA v (nameA s :: r) 3 = some (.s s) := (eA_eq (c := 3) (a := nameA s) rfl).trans (congrArg some fv_name)
theorem eA_name_ne {s : ByteArray} {r : List Att} (h : 3 ≠ c) : eA v (nameA s :: r) c = eA v r c := eA_ne (a := nameA s) h
theorem eA_n (a f : Int) {n : Int} {r : List Att} (ha : a.toNat = c) (hf : f = 15 ∨ f = 13 ∨ f = 11) (h0 : -9223372036854775808 ≤ n) (h1 : n < 9223372036854775808) : eA v (⟨a, f, false, u64n n, noS, []⟩ :: r) c = some (.i n) :=
 (eA_eq (a := ⟨a, f, false, u64n n, noS, []⟩) ha).trans (congrArg some (fv_num hf h0 h1))
theorem eA_n_ne (a f : Int) {n : Int} {r : List Att} (ha : a.toNat ≠ c) : eA v (⟨a, f, false, u64n n, noS, []⟩ :: r) c = eA v r c := eA_ne (a := ⟨a, f, false, u64n n, noS, []⟩) ha
theorem eA_plain (a : Int) {n : Int} {r : List Att} (ha : a.toNat = c) (h0 : -9223372036854775808 ≤ n) (h1 : n < 9223372036854775808) : eA v (plainA a n :: r) c = some (.i n) := eA_n a 15 ha (.inl rfl) h0 h1
theorem eA_plain_ne (a : Int) {n : Int} {r : List Att} (ha : a.toNat ≠ c) : eA v (plainA a n :: r) c = eA v r c := eA_n_ne a 15 ha
theorem eA_inc {r : List Att} : eA v (incA :: r) 60 = some (.b true) := (eA_eq (c := 60) (a := incA) rfl).trans (congrArg some fv_inc)
theorem eA_inc_ne {r : List Att} (h : 60 ≠ c) : eA v (incA :: r) c = eA v r c := eA_ne (a := incA) h
def ofO (l : Lay) (ds : List Df) (n : Int) : Option FV := if n < 0 then none else some (.o (nodO l ds (rtI ds n.toNat)))
theorem eA_of (hok : OkDs l ds) {n : Int} (h1 : n < ds.length) {r : List Att} (hr : n < 0 → eA v r 73 = none) : eA v (ofT l (PLI l ds) n ++ r) 73 = ofO l ds n := by
 unfold ofT ofO
 split
 ·next h => rw [List.nil_append]; exact hr h
 ·next h =>
  have hlt : n.toNat < ds.length := by omega
  have hg := PLI_get hok (List.getElem?_eq_getElem hlt)
  rw [List.singleton_append, eA_eq (by rfl), List.getD_eq_getElem?_getD, hg, Option.getD_some]
  have hsm : nodO l ds (rtI ds n.toNat) < 2147483648 := by
   have := PLI_sm hok _ (List.mem_of_getElem? hg)
   omega
  rw [fv_ref (by split <;> simp), u64n_nat (by omega) (by omega), Int.toNat_natCast]
theorem eA_of' (hok : OkDs l ds) {n : Int} (h1 : n < ds.length) : eA v (ofT l (PLI l ds) n) 73 = ofO l ds n := by
 have := eA_of (v := v) hok h1 (r := []) fun _ => rfl
 rwa [List.append_nil] at this
structure MemK (v : Int) (l : Lay) (ds : List Df) (m : Mem) (x : Nod) : Prop where
 tag : x.tag = 13
 ch : x.ch = false
 sib : x.sib = false
 nm : eV v x 3 = some (.s m.name)
 of : eV v x 73 = ofO l ds m.of
 off : eV v x 56 = some (.i m.off)
 no : ∀ c, c = 11 ∨ c = 12 ∨ c = 107 ∨ c = 13 → eV v x c = none
theorem memN_says (hok : OkDs l ds) {m : Mem} {d : Df} {k : Int} (hm : OkMem ds.length d m k) : MemK v l ds m (memN l (PLI l ds) m) := by
 have h0 := hm.o0
 have h1 := hm.o1
 refine ⟨rfl, rfl, rfl, ?_, ?_, ?_, fun c hc => ?_⟩
 ·show eA v (nameA m.name :: (ofT l (PLI l ds) m.of ++ [plainA 56 m.off])) 3 = _
  rw [eA_name]
 ·show eA v (nameA m.name :: (ofT l (PLI l ds) m.of ++ [plainA 56 m.off])) 73 = _
  rw [eA_name_ne (by decide), eA_of hok hm.of1 fun _ => by rw [eA_plain_ne 56 (by decide), eA_nil]]
 ·show eA v (nameA m.name :: (ofT l (PLI l ds) m.of ++ [plainA 56 m.off])) 56 = _
  rw [eA_name_ne (by decide), eA_of_ne (by decide)]; exact eA_plain 56 rfl (by omega) (by omega)
 ·show eA v (nameA m.name :: (ofT l (PLI l ds) m.of ++ [plainA 56 m.off])) c = _
  rw [eA_name_ne (by omega), eA_of_ne (by omega), eA_plain_ne 56 (by show 56 ≠ c; omega), eA_nil]
structure CntK (v : Int) (up : Bool) (z : Int) (x : Nod) : Prop where
 tag : x.tag = 33
 ch : x.ch = false
 sib : x.sib = false
 cnt : eV v x 55 = if z < 0 ∨ up = true then none else some (.i z)
 upp : eV v x 47 = if z < 0 ∨ up = false then none else some (.i (z - 1))
theorem cntN_says {up : Bool} {z : Int} (h0 : -1 ≤ z) (h1 : z ≤ 1024) : CntK v up z (cntN up z) := by
 refine ⟨rfl, rfl, rfl, ?_, ?_⟩
 ·show eA v (cntA up z) 55 = _
  unfold cntA
  by_cases hz : z < 0
  ·rw [if_pos hz, if_pos (.inl hz), eA_nil]
  ·rw [if_neg hz]
   cases up with
   | true => rw [if_pos rfl, if_pos (.inr rfl), eA_plain_ne 47 (by decide), eA_nil]
   | false => rw [if_neg (by decide), if_neg (by rintro (h | h); exact hz h; cases h)]; exact eA_plain 55 rfl (by omega) (by omega)
 ·show eA v (cntA up z) 47 = _
  unfold cntA
  by_cases hz : z < 0
  ·rw [if_pos hz, if_pos (.inl hz), eA_nil]
  ·rw [if_neg hz]
   cases up with
   | true => rw [if_pos rfl, if_neg (by rintro (h | h); exact hz h; cases h)]; exact eA_plain 47 rfl (by omega) (by omega)
   | false => rw [if_neg (by decide), if_pos (.inr rfl), eA_plain_ne 55 (by decide), eA_nil]
structure ConK (v : Int) (m : Con) (x : Nod) : Prop where
 tag : x.tag = 40
 ch : x.ch = false
 sib : x.sib = false
 nm : eV v x 3 = some (.s m.name)
 val : eV v x 28 = some (.i m.val)
theorem conN_says {m : Con} (hm : OkCon m) : ConK v m (conN m) := by
 have h0 := hm.v0
 have h1 := hm.v1
 refine ⟨rfl, rfl, rfl, ?_, ?_⟩
 ·show eA v [nameA m.name, ⟨28, 13, false, u64n m.val, noS, []⟩] 3 = _
  rw [eA_name]
 ·show eA v [nameA m.name, ⟨28, 13, false, u64n m.val, noS, []⟩] 28 = _
  rw [eA_name_ne (by decide)]; exact eA_n 28 13 rfl (.inr (.inl rfl)) (by omega) (by omega)
structure ParK (v : Int) (l : Lay) (ds : List Df) (p : Int) (x : Nod) : Prop where
 tag : x.tag = if p = -3 then 24 else 5
 ch : x.ch = false
 sib : x.sib = false
 of : p ≠ -3 → eV v x 73 = ofO l ds p
theorem parN_says (hok : OkDs l ds) {p : Int} (hp : p = -3 ∨ (0 ≤ p ∧ p < ds.length)) : ParK v l ds p (parN l (PLI l ds) p) := by
 unfold parN
 by_cases h3 : p = -3
 ·rw [if_pos h3]; exact ⟨by rw [if_pos h3], rfl, rfl, fun h => absurd h3 h⟩
 ·rw [if_neg h3]; exact ⟨by rw [if_neg h3], rfl, rfl, fun _ => eA_of' hok (by omega)⟩
def hdN (l : Lay) (ds : List Df) (d : Df) : Nod := ⟨defTag d, !(defK l (PLI l ds) d).isEmpty, false, defA l (PLI l ds) d⟩
theorem hdN_at {j : Nat} {d : Df} (hj : ds[j]? = some d) : (TU l ds).nods[rtI ds j]? = some (hdN l ds d) := by
 have := nod_get (l := l) hj (nlen_pos d)
 rw [Nat.add_zero] at this
 rw [this]; rfl
theorem kid_at {j k : Nat} {d : Df} {x : Nod} (hj : ds[j]? = some d) (hx : (defK l (PLI l ds) d)[k]? = some x) : (TU l ds).nods[rtI ds j + 1 + k]? = some x := by
 have hk := (List.getElem?_eq_some_iff.1 hx).1
 have hl := defK_length (l := l) (pl := PLI l ds) (d := d)
 have hn : nlen d = kidN d + 2 := by unfold nlen; rw [if_neg (by omega)]
 have := nod_get (l := l) (k := 1 + k) hj (by omega)
 rw [show rtI ds j + 1 + k = rtI ds j + (1 + k) by omega, this]
 have he : (defK l (PLI l ds) d).isEmpty = false := by
  cases e : defK l (PLI l ds) d with
  | nil => rw [e] at hk; simp at hk
  | cons _ _ => rfl
 unfold defN
 rw [he, show 1 + k = k + 1 by omega, List.getElem?_cons_succ]
 simp only [Bool.false_eq_true, if_false]
 rw [List.getElem?_append_left hk, hx]
theorem nul_at {j : Nat} {d : Df} (hj : ds[j]? = some d) (hk : (defK l (PLI l ds) d).isEmpty = false) : (TU l ds).nods[rtI ds j + 1 + (defK l (PLI l ds) d).length]? = some nulN := by
 have hl := defK_length (l := l) (pl := PLI l ds) (d := d)
 have hpos : 0 < (defK l (PLI l ds) d).length := by
  cases e : defK l (PLI l ds) d with
  | nil => rw [e] at hk; cases hk
  | cons _ _ => simp
 have hn : nlen d = kidN d + 2 := by unfold nlen; rw [if_neg (by omega)]
 have := nod_get (l := l) (k := 1 + (defK l (PLI l ds) d).length) hj (by omega)
 rw [show rtI ds j + 1 + (defK l (PLI l ds) d).length = rtI ds j + (1 + (defK l (PLI l ds) d).length) by omega, this]
 unfold defN
 rw [hk, show 1 + (defK l (PLI l ds) d).length = (defK l (PLI l ds) d).length + 1 by omega, List.getElem?_cons_succ]
 simp
theorem hd_tag (d : Df) : 0 < (hdN l ds d).tag := (defTag_pos d).1
variable {d : Df}
theorem hd9 (hok : OkDs l ds) (h1 : d.of < ds.length) (h : d.kind = 9) : (hdN l ds d).tag = 15 ∧ eV v (hdN l ds d) 73 = ofO l ds d.of ∧ eV v (hdN l ds d) 11 = none := by
 have e : (hdN l ds d).atts = ofT l (PLI l ds) d.of := by show defA _ _ _ = _; unfold defA; rw [if_pos h]
 refine ⟨by show defTag d = _; unfold defTag; rw [if_pos h], ?_, ?_⟩
 ·show eA v _ 73 = _; rw [e, eA_of' hok h1]
 ·show eA v _ 11 = _; rw [e, eA_of_ne' (by decide)]
theorem hd12 (hok : OkDs l ds) (h1 : d.of < ds.length) (h : d.kind = 12) : (hdN l ds d).tag = 22 ∧ eV v (hdN l ds d) 73 = ofO l ds d.of ∧ eV v (hdN l ds d) 11 = none ∧ eV v (hdN l ds d) 3 = some (.s d.name) := by
 have e : (hdN l ds d).atts = nameA d.name :: ofT l (PLI l ds) d.of := by show defA _ _ _ = _; unfold defA; simp [h]
 refine ⟨by show defTag d = _; unfold defTag; simp [h], ?_, ?_, ?_⟩
 ·show eA v _ 73 = _; rw [e, eA_name_ne (by decide), eA_of' hok h1]
 ·show eA v _ 11 = _; rw [e, eA_name_ne (by decide), eA_of_ne' (by decide)]
 ·show eA v _ 3 = _; rw [e, eA_name]
theorem hd13 (hok : OkDs l ds) (h1 : d.of < ds.length) (h : d.kind = 13) : (hdN l ds d).tag = tagQ d.which ∧ eV v (hdN l ds d) 73 = ofO l ds d.of ∧ eV v (hdN l ds d) 11 = none := by
 have e : (hdN l ds d).atts = ofT l (PLI l ds) d.of := by show defA _ _ _ = _; unfold defA; simp [h]
 refine ⟨by show defTag d = _; unfold defTag; simp [h], ?_, ?_⟩
 ·show eA v _ 73 = _; rw [e, eA_of' hok h1]
 ·show eA v _ 11 = _; rw [e, eA_of_ne' (by decide)]
theorem hd16 (h : d.kind = 16) : (hdN l ds d).tag = 59 ∧ eV v (hdN l ds d) 3 = some (.s d.name) ∧ eV v (hdN l ds d) 11 = none := by
 have e : (hdN l ds d).atts = [nameA d.name] := by show defA _ _ _ = _; unfold defA; simp [h]
 refine ⟨by show defTag d = _; unfold defTag; simp [h], ?_, ?_⟩
 ·show eA v _ 3 = _; rw [e, eA_name]
 ·show eA v _ 11 = _; rw [e, eA_name_ne (by decide), eA_nil]
theorem hd10 (h0 : 0 ≤ d.size) (hs : d.size ≤ 1048576) (h : d.kind = 10) : (hdN l ds d).tag = tagSt d.which ∧ eV v (hdN l ds d) 3 = some (.s d.name) ∧ eV v (hdN l ds d) 60 = (if d.inc then some (.b true) else none) ∧ eV v (hdN l ds d) 11 = (if d.inc then none else some (.i d.size)) := by
 have e : (hdN l ds d).atts = [nameA d.name, if d.inc then incA else plainA 11 d.size] := by show defA _ _ _ = _; unfold defA; simp [h]
 refine ⟨by show defTag d = _; unfold defTag; simp [h], ?_, ?_, ?_⟩
 ·show eA v _ 3 = _; rw [e, eA_name]
 ·show eA v _ 60 = _; rw [e, eA_name_ne (by decide)]
  cases d.inc with
  | true => simp only [if_true]; rw [eA_inc]
  | false => simp only [Bool.false_eq_true, if_false]; rw [eA_plain_ne 11 (by decide), eA_nil]
 ·show eA v _ 11 = _; rw [e, eA_name_ne (by decide)]
  cases d.inc with
  | true => simp only [if_true]; rw [eA_inc_ne (by decide), eA_nil]
  | false => simp only [Bool.false_eq_true, if_false]; exact eA_plain 11 rfl (by omega) (by omega)
theorem hd11 (hok : OkDs l ds) (h1 : d.of < ds.length) (h : d.kind = 11) : (hdN l ds d).tag = 1 ∧ eV v (hdN l ds d) 73 = ofO l ds d.of ∧ eV v (hdN l ds d) 11 = none ∧ eV v (hdN l ds d) 46 = none := by
 have e : (hdN l ds d).atts = ofT l (PLI l ds) d.of := by show defA _ _ _ = _; unfold defA; simp [h]
 refine ⟨by show defTag d = _; unfold defTag; simp [h], ?_, ?_, ?_⟩
 ·show eA v _ 73 = _; rw [e, eA_of' hok h1]
 ·show eA v _ 11 = _; rw [e, eA_of_ne' (by decide)]
 ·show eA v _ 46 = _; rw [e, eA_of_ne' (by decide)]
theorem hd14 (h0 : 0 ≤ d.size) (hs : d.size ≤ 1048576) (h : d.kind = 14) : (hdN l ds d).tag = 4 ∧ eV v (hdN l ds d) 3 = some (.s d.name) ∧ eV v (hdN l ds d) 11 = some (.i d.size) := by
 have e : (hdN l ds d).atts = [nameA d.name, plainA 11 d.size] := by show defA _ _ _ = _; unfold defA; simp [h]
 refine ⟨by show defTag d = _; unfold defTag; simp [h], ?_, ?_⟩
 ·show eA v _ 3 = _; rw [e, eA_name]
 ·show eA v _ 11 = _; rw [e, eA_name_ne (by decide)]; exact eA_plain 11 rfl (by omega) (by omega)
theorem hd15 (hok : OkDs l ds) (h1 : d.of < ds.length) (h : d.kind = 15) : (hdN l ds d).tag = 21 ∧ eV v (hdN l ds d) 73 = ofO l ds d.of ∧ eV v (hdN l ds d) 11 = none := by
 have e : (hdN l ds d).atts = ofT l (PLI l ds) d.of := by show defA _ _ _ = _; unfold defA; simp [h]
 refine ⟨by show defTag d = _; unfold defTag; simp [h], ?_, ?_⟩
 ·show eA v _ 73 = _; rw [e, eA_of' hok h1]
 ·show eA v _ 11 = _; rw [e, eA_of_ne' (by decide)]
theorem hdBa (h0 : 0 ≤ d.size) (hs : d.size ≤ 1048576) (h1 : 1 ≤ d.kind) (h : d.kind ≤ 8) : (hdN l ds d).tag = 36 ∧ eV v (hdN l ds d) 3 = some (.s d.name) ∧ eV v (hdN l ds d) 62 = some (.i d.kind) ∧ eV v (hdN l ds d) 11 = some (.i d.size) ∧
  ∀ c, c = 12 ∨ c = 107 ∨ c = 13 → eV v (hdN l ds d) c = none := by
 have e : (hdN l ds d).atts = [nameA d.name, ⟨62, 11, false, u64n d.kind, noS, []⟩, plainA 11 d.size] := by
  show defA _ _ _ = _; unfold defA
  rw [if_neg (by omega), if_neg (by omega), if_neg (by omega), if_neg (by omega), if_neg (by omega), if_neg (by omega), if_neg (by omega), if_neg (by omega)]
 refine ⟨?_, ?_, ?_, ?_, fun c hc => ?_⟩
 ·show defTag d = _; unfold defTag
  rw [if_neg (by omega), if_neg (by omega), if_neg (by omega), if_neg (by omega), if_neg (by omega), if_neg (by omega), if_neg (by omega), if_neg (by omega)]
 ·show eA v _ 3 = _; rw [e, eA_name]
 ·show eA v _ 62 = _; rw [e, eA_name_ne (by decide)]; exact eA_n 62 11 rfl (.inr (.inr rfl)) (by omega) (by omega)
 ·show eA v _ 11 = _; rw [e, eA_name_ne (by decide), eA_n_ne 62 11 (by decide)]; exact eA_plain 11 rfl (by omega) (by omega)
 ·show eA v _ c = _
  rw [e, eA_name_ne (by omega), eA_n_ne 62 11 (by show 62 ≠ c; omega), eA_plain_ne 11 (by show 11 ≠ c; omega), eA_nil]
end
end Go.Proofs.YtbgkbgoonjkghaaGreatDoor
namespace Go.Sl
open Go Go.BigFrame
section
variable {P : Program} {T : Tab}
theorem Tab.info_get (hT : TabOk P T) {t : TypeId} {j : TI} (h : T.get t = some j) : ∃ i, P.info? t = some i ∧ i.size = j.size := by
 obtain ⟨_, i, hi, his, -⟩ := hT.get h
 exact ⟨i, hi, his⟩
theorem meth1 (hT : TabOk P T) {t s : TypeId} {fs us : Array Field} {f : Field} {j : TI} {fn : FuncId} {name : String}
  (hm : ((P.info? t).bind fun i => (i.methods.find? (·.name == name)).map fun m => (m.path.toList, m.func)) = some ([⟨s, 0, true⟩], some (fn, true)))
  (hs : T.desc s = some (.struct fs)) (hf : fs[0]? = some f) (hj : T.get f.type = some j) (hn : Nat.beq j.size 0 = false) (ho : f.offset = 0) (ht : T.desc f.type = some (.struct us)) (k : Nat) (b : Nat) (w : World) :
  (method (k + 1) t (.pointer (some ⟨b, 0, none⟩)) name).run P w = .ok (fn, .pointer (some ⟨b, 0, none⟩)) w := by
 obtain ⟨i, hi, his⟩ := Tab.info_get hT hj
 refine run_method_emb hm (Tab.desc_ok hT hs) hf hi (by rw [his]; exact fun e => by rw [e] at hn; cases hn) ho .nil (Tab.desc_ok hT ht) k b w
theorem meth2 (hT : TabOk P T) {t s : TypeId} {fs gs us : Array Field} {f g : Field} {j i : TI} {fn : FuncId} {name : String} {s2 : TypeId}
  (hm : ((P.info? t).bind fun i => (i.methods.find? (·.name == name)).map fun m => (m.path.toList, m.func)) = some ([⟨s, 0, true⟩, ⟨s2, 0, false⟩], some (fn, true)))
  (hs : T.desc s = some (.struct fs)) (hf : fs[0]? = some f) (h2 : f.type = s2) (hj : T.get f.type = some j) (hn : Nat.beq j.size 0 = false) (ho : f.offset = 0)
  (hg : T.desc f.type = some (.struct gs)) (hg0 : gs[0]? = some g) (hi : T.get g.type = some i) (hin : Nat.beq i.size 0 = false) (hgo : g.offset = 0) (ht : T.desc g.type = some (.struct us)) (k : Nat) (b : Nat) (w : World) :
  (method (k + 1) t (.pointer (some ⟨b, 0, none⟩)) name).run P w = .ok (fn, .pointer (some ⟨b, 0, none⟩)) w := by
 subst h2
 obtain ⟨i1, hi1, his1⟩ := Tab.info_get hT hj
 obtain ⟨i2, hi2, his2⟩ := Tab.info_get hT hi
 exact run_method_emb hm (Tab.desc_ok hT hs) hf hi1 (by rw [his1]; exact fun e => by rw [e] at hn; cases hn) ho
  (.cons (Tab.desc_ok hT hg) hg0 hi2 (by rw [his2]; exact fun e => by rw [e] at hin; cases hin) hgo .nil) (Tab.desc_ok hT ht) k b w
end
end Go.Sl
namespace Go.Proofs.YtbgkbgoonjkghaaGreatDoor
open Go Go.Sl
set_option maxRecDepth 10000
set_option maxHeartbeats 40000000
section
variable {Γ : Env} {H : List Blk}
theorem common_ok {v : Value} : Spc Tryz.prog 91 #[v] Γ H (fun r Γ' H' => Γ = Γ' ∧ H = H' ∧ r = v) := by
 refine Spc.body1 Tryz.func91 rfl Tryz.ntmps91 rfl ?_
 refine hz_ ?_
 exact end_1 rfl rfl (Env.le.rfl' _) ⟨rfl, rfl, rfl⟩
theorem basic_ok {v : Value} : Spc Tryz.prog 165 #[v] Γ H (fun r Γ' H' => Γ = Γ' ∧ H = H' ∧ r = v) := by
 refine Spc.body1 Tryz.func165 rfl Tryz.ntmps165 rfl ?_
 refine hz_ ?_
 exact end_1 rfl rfl (Env.le.rfl' _) ⟨rfl, rfl, rfl⟩
theorem sizeC_ok {b : Nat} {z : Int} (h : Rd Γ H b 0 (.int .i64 z)) : Spc Tryz.prog 73 #[.pointer (some ⟨b, 0, none⟩)] Γ H (fun r Γ' H' => Γ = Γ' ∧ H = H' ∧ r = .int .i64 z) := by
 refine Spc.body1 Tryz.func73 rfl Tryz.ntmps73 rfl ?_
 refine hz_ ?_
 exact end_1 rfl rfl (Env.le.rfl' _) ⟨rfl, rfl, rfl⟩
def SzC (Γ : Env) (H : List Blk) (v : Value) (z : Int) : Prop := ∃ t u f rv, v = .iface t u ∧ (∀ w, (method (Tryz.prog.types.size + Made.depth) t u "Size").run Tryz.prog w = .ok (f, rv) w) ∧
 (∀ args w, (callFunc f args).run Tryz.prog w = .ok (.enter f args) w) ∧ Spc Tryz.prog f #[rv] Γ H (fun r Γ' H' => Γ = Γ' ∧ H = H' ∧ r = .int .i64 z)
theorem sizeT_ok {b : Nat} {z : Int} {v : Value} (h : Rd Γ H b (0 + 2) v) (hz : SzC Γ H v z) : Spc Tryz.prog 74 #[.pointer (some ⟨b, 0, none⟩)] Γ H (fun r Γ' H' => Γ = Γ' ∧ H = H' ∧ r = .int .i64 z) := by
 obtain ⟨t, u, f, rv, rfl, hm, hc, hs⟩ := hz
 refine Spc.body1 Tryz.func74 rfl Tryz.ntmps74 rfl ?_
 refine hz_ ?_
 refine WL.invoke rfl hm hc rfl rfl hs ?_
 rintro _ _ _ - ⟨rfl, rfl, rfl⟩
 refine hz_ ?_
 exact end_1 rfl rfl (Env.le.rfl' _) ⟨rfl, rfl, rfl⟩
theorem sizeQ_ok {b : Nat} {z : Int} {v : Value} (h : Rd Γ H b (0 + 3) v) (hz : SzC Γ H v z) : Spc Tryz.prog 75 #[.pointer (some ⟨b, 0, none⟩)] Γ H (fun r Γ' H' => Γ = Γ' ∧ H = H' ∧ r = .int .i64 z) := by
 obtain ⟨t, u, f, rv, rfl, hm, hc, hs⟩ := hz
 refine Spc.body1 Tryz.func75 rfl Tryz.ntmps75 rfl ?_
 refine hz_ ?_
 refine WL.invoke rfl hm hc rfl rfl hs ?_
 rintro _ _ _ - ⟨rfl, rfl, rfl⟩
 refine hz_ ?_
 exact end_1 rfl rfl (Env.le.rfl' _) ⟨rfl, rfl, rfl⟩
theorem sizeA_ok {b : Nat} {z n : Int} {v : Value} (h : Rd Γ H b (0 + 2) v) (h4 : Rd Γ H b (0 + 4) (.int .i64 n)) (hz : SzC Γ H v z) : Spc Tryz.prog 76 #[.pointer (some ⟨b, 0, none⟩)] Γ H (fun r Γ' H' => Γ = Γ' ∧ H = H' ∧ r = .int .i64 (if n = -1 then 0 else IntKind.i64.wrap (n * z))) := by
 obtain ⟨t, u, f, rv, rfl, hm, hc, hs⟩ := hz
 refine Spc.body1 Tryz.func76 rfl Tryz.ntmps76 rfl ?_
 refine hz_ ?_
 by_cases hn : n = -1
 ·subst hn
  refine hz_ ?_
  exact end_1 rfl rfl (Env.le.rfl' _) ⟨rfl, rfl, rfl⟩
 ·rw [show (n == -1) = false from beq_eq_false_iff_ne.2 hn, if_neg hn]
  refine hz_ ?_
  refine WC.draw 11 (.take 0 (.take 1 (.take 2 (.take 3 (.take 4 (.take 5 (.take 6 (.take 7 (.one 8 (.take 9 (.one 10 .done))))))))))) (H) mixed xsb_ (by decide +kernel) ?_
  refine dz_ ?_
  refine WL.invoke rfl hm hc rfl rfl hs ?_
  rintro _ _ _ - ⟨rfl, rfl, rfl⟩
  refine dz_ ?_
  refine hz_ ?_
  exact end_1 rfl rfl (Env.le.rfl' _) ⟨rfl, rfl, rfl⟩
theorem szc_basic {k : Int} {b : Nat} {z : Int} (h1 : 1 ≤ k) (h8 : k ≤ 10 ∨ 14 ≤ k) (h16 : k ≤ 16) (h : Rd Γ H b 0 (.int .i64 z)) : SzC Γ H (pkey (tyP k) b) z := by
 have hk : k = 1 ∨ k = 2 ∨ k = 3 ∨ k = 4 ∨ k = 5 ∨ k = 6 ∨ k = 7 ∨ k = 8 ∨ k = 9 ∨ k = 10 ∨ k = 14 ∨ k = 15 ∨ k = 16 := by omega
 rcases hk with rfl | rfl | rfl | rfl | rfl | rfl | rfl | rfl | rfl | rfl | rfl | rfl | rfl
 ·exact ⟨_, _, _, _, rfl, fun w => meth2 tab_ok (t := 190) (s := 194) (s2 := 192) (by kernel_rfl) (by rfl) (by rfl) (by rfl) (by rfl) (by rfl) (by rfl) (by rfl) (by rfl) (by rfl) (by rfl) (by rfl) (by rfl) _ _ w, Tryz.call73, sizeC_ok h⟩
 ·exact ⟨_, _, _, _, rfl, fun w => meth2 tab_ok (t := 195) (s := 196) (s2 := 192) (by kernel_rfl) (by rfl) (by rfl) (by rfl) (by rfl) (by rfl) (by rfl) (by rfl) (by rfl) (by rfl) (by rfl) (by rfl) (by rfl) _ _ w, Tryz.call73, sizeC_ok h⟩
 ·exact ⟨_, _, _, _, rfl, fun w => meth2 tab_ok (t := 197) (s := 198) (s2 := 192) (by kernel_rfl) (by rfl) (by rfl) (by rfl) (by rfl) (by rfl) (by rfl) (by rfl) (by rfl) (by rfl) (by rfl) (by rfl) (by rfl) _ _ w, Tryz.call73, sizeC_ok h⟩
 ·exact ⟨_, _, _, _, rfl, fun w => meth2 tab_ok (t := 199) (s := 200) (s2 := 192) (by kernel_rfl) (by rfl) (by rfl) (by rfl) (by rfl) (by rfl) (by rfl) (by rfl) (by rfl) (by rfl) (by rfl) (by rfl) (by rfl) _ _ w, Tryz.call73, sizeC_ok h⟩
 ·exact ⟨_, _, _, _, rfl, fun w => meth2 tab_ok (t := 201) (s := 202) (s2 := 192) (by kernel_rfl) (by rfl) (by rfl) (by rfl) (by rfl) (by rfl) (by rfl) (by rfl) (by rfl) (by rfl) (by rfl) (by rfl) (by rfl) _ _ w, Tryz.call73, sizeC_ok h⟩
 ·exact ⟨_, _, _, _, rfl, fun w => meth2 tab_ok (t := 205) (s := 206) (s2 := 192) (by kernel_rfl) (by rfl) (by rfl) (by rfl) (by rfl) (by rfl) (by rfl) (by rfl) (by rfl) (by rfl) (by rfl) (by rfl) (by rfl) _ _ w, Tryz.call73, sizeC_ok h⟩
 ·exact ⟨_, _, _, _, rfl, fun w => meth2 tab_ok (t := 203) (s := 204) (s2 := 192) (by kernel_rfl) (by rfl) (by rfl) (by rfl) (by rfl) (by rfl) (by rfl) (by rfl) (by rfl) (by rfl) (by rfl) (by rfl) (by rfl) _ _ w, Tryz.call73, sizeC_ok h⟩
 ·exact ⟨_, _, _, _, rfl, fun w => meth2 tab_ok (t := 207) (s := 208) (s2 := 192) (by kernel_rfl) (by rfl) (by rfl) (by rfl) (by rfl) (by rfl) (by rfl) (by rfl) (by rfl) (by rfl) (by rfl) (by rfl) (by rfl) _ _ w, Tryz.call73, sizeC_ok h⟩
 ·exact ⟨_, _, _, _, rfl, fun w => meth1 tab_ok (t := 240) (s := 242) (by kernel_rfl) (by rfl) (by rfl) (by rfl) (by rfl) (by rfl) (by rfl) _ _ w, Tryz.call73, sizeC_ok h⟩
 ·exact ⟨_, _, _, _, rfl, fun w => meth1 tab_ok (t := 212) (s := 215) (by kernel_rfl) (by rfl) (by rfl) (by rfl) (by rfl) (by rfl) (by rfl) _ _ w, Tryz.call73, sizeC_ok h⟩
 ·exact ⟨_, _, _, _, rfl, fun w => meth1 tab_ok (t := 233) (s := 236) (by kernel_rfl) (by rfl) (by rfl) (by rfl) (by rfl) (by rfl) (by rfl) _ _ w, Tryz.call73, sizeC_ok h⟩
 ·exact ⟨_, _, _, _, rfl, fun w => meth1 tab_ok (t := 243) (s := 246) (by kernel_rfl) (by rfl) (by rfl) (by rfl) (by rfl) (by rfl) (by rfl) _ _ w, Tryz.call73, sizeC_ok h⟩
 ·exact ⟨_, _, _, _, rfl, fun w => meth2 tab_ok (t := 250) (s := 251) (s2 := 192) (by kernel_rfl) (by rfl) (by rfl) (by rfl) (by rfl) (by rfl) (by rfl) (by rfl) (by rfl) (by rfl) (by rfl) (by rfl) (by rfl) _ _ w, Tryz.call73, sizeC_ok h⟩
theorem szc_void {b : Nat} {z : Int} (h : Rd Γ H b 0 (.int .i64 z)) : SzC Γ H (pkey 134 b) z :=
 ⟨_, _, _, _, rfl, fun w => meth1 tab_ok (t := 134) (s := 182) (by kernel_rfl) (by rfl) (by rfl) (by rfl) (by rfl) (by rfl) (by rfl) _ _ w, Tryz.call73, sizeC_ok h⟩
theorem szc_typedef {b : Nat} {z : Int} {v : Value} (h : Rd Γ H b (0 + 2) v) (hz : SzC Γ H v z) : SzC Γ H (pkey 248 b) z :=
 ⟨_, _, _, _, rfl, fun w => run_method_ptr Tryz.underlying248 (by kernel_rfl) _ _ w, Tryz.call74, sizeT_ok h hz⟩
theorem szc_qual {b : Nat} {z : Int} {v : Value} (h : Rd Γ H b (0 + 3) v) (hz : SzC Γ H v z) : SzC Γ H (pkey 230 b) z :=
 ⟨_, _, _, _, rfl, fun w => run_method_ptr Tryz.underlying230 (by kernel_rfl) _ _ w, Tryz.call75, sizeQ_ok h hz⟩
theorem szc_array {b : Nat} {z n : Int} {v : Value} (h : Rd Γ H b (0 + 2) v) (h4 : Rd Γ H b (0 + 4) (.int .i64 n)) (hz : SzC Γ H v z) : SzC Γ H (pkey 184 b) (if n = -1 then 0 else IntKind.i64.wrap (n * z)) :=
 ⟨_, _, _, _, rfl, fun w => run_method_ptr Tryz.underlying184 (by kernel_rfl) _ _ w, Tryz.call76, sizeA_ok h h4 hz⟩
end
end Go.Proofs.YtbgkbgoonjkghaaGreatDoor
