/- Parts of the proof: Sl1 Sl2 Sl3 Sl4 Sl5. -/
import Derived.WalkKit
import Derived.OrdersHeld
import Derived.KernelRfl
namespace Go.Sl
open Go
abbrev Blk := Nat × Obj
structure Env where
 imm : Nat → Option Obj
 os : Os
 tape : Nat → Question → Nat
 output : Array (Nat × ByteArray)
structure Env.le (Γ Γ' : Env) : Prop where
 imm : ∀ b o, Γ.imm b = some o → Γ'.imm b = some o
 os : Γ'.os = Γ.os
 tape : Γ'.tape = Γ.tape
 output : Γ'.output = Γ.output
theorem Env.le.rfl' (Γ : Env) : Γ.le Γ := ⟨fun _ _ h => h, rfl, rfl, rfl⟩
theorem Env.le.trans {a b c : Env} (h : a.le b) (k : b.le c) : a.le c :=
 ⟨fun x o e => k.imm x o (h.imm x o e), k.os.trans h.os, k.tape.trans h.tape, k.output.trans h.output⟩
def Env.add (Γ : Env) (b : Nat) (o : Obj) : Env := { Γ with imm := fun k => if k = b then some o else Γ.imm k }
structure St (Γ : Env) (H : List Blk) (w : World) : Prop where
 imm : ∀ b o, Γ.imm b = some o → w.heap[b]? = some o
 own : ∀ b o, (b, o) ∈ H → w.heap[b]? = some o
 nodup : (H.map Prod.fst).Nodup
 apart : ∀ b o, (b, o) ∈ H → Γ.imm b = none
 os : w.os = Γ.os
 tape : w.tape = Γ.tape
 output : w.output = Γ.output
inductive Pick : List Blk → Nat → Obj → List Blk → Prop where
 | here {b o H} : Pick ((b, o) :: H) b o H
 | there {x H b o H'} : Pick H b o H' → Pick (x :: H) b o (x :: H')
 | over {G H b o H'} : Pick H b o H' → Pick (G ++ H) b o (G ++ H')
theorem Pick.perm {H b o H'} (h : Pick H b o H') : H.Perm ((b, o) :: H') := by
 induction h with
 | here => exact List.Perm.refl _
 | there _ ih => exact (List.Perm.cons _ ih).trans (List.Perm.swap _ _ _)
 | over _ ih => exact (List.Perm.append_left _ ih).trans List.perm_middle
inductive Tk : List Blk → List Blk → List Blk → Prop where
 | here {Hs F} : Tk (Hs ++ F) Hs F
 | all {Hs} : Tk Hs Hs []
 | skip {x H Hs F} : Tk H Hs F → Tk (x :: H) Hs (x :: F)
 | over {G H Hs F} : Tk H Hs F → Tk (G ++ H) Hs (G ++ F)
theorem Tk.perm {H Hs F} (h : Tk H Hs F) : H.Perm (Hs ++ F) := by
 induction h with
 | here => exact List.Perm.refl _
 | all => rw [List.append_nil]
 | skip _ ih => exact (List.Perm.cons _ ih).trans List.perm_middle.symm
 | over _ ih => exact (List.Perm.append_left _ ih).trans (by rw [← List.append_assoc, ← List.append_assoc]; exact List.Perm.append_right _ List.perm_append_comm)
theorem St.perm {Γ H H' w} (h : St Γ H w) (p : H.Perm H') : St Γ H' w :=
 ⟨h.imm, fun b o hm => h.own b o (p.mem_iff.2 hm), (p.map _).nodup_iff.1 h.nodup, fun b o hm => h.apart b o (p.mem_iff.2 hm), h.os, h.tape, h.output⟩
theorem St.drop {Γ x H w} (h : St Γ (x :: H) w) : St Γ H w :=
 ⟨h.imm, fun b o hm => h.own b o (List.mem_cons_of_mem _ hm), (List.nodup_cons.1 h.nodup).2, fun b o hm => h.apart b o (List.mem_cons_of_mem _ hm), h.os, h.tape, h.output⟩
theorem St.lt {Γ H w b o} (h : St Γ H w) (hm : (b, o) ∈ H) : b < w.heap.size := by
 have := h.own b o hm
 rcases Nat.lt_or_ge b w.heap.size with h | h
 ·exact h
 ·simp [Array.getElem?_eq_none h] at this
theorem St.ltImm {Γ H w b o} (h : St Γ H w) (hm : Γ.imm b = some o) : b < w.heap.size := by
 have := h.imm b o hm
 rcases Nat.lt_or_ge b w.heap.size with h | h
 ·exact h
 ·simp [Array.getElem?_eq_none h] at this
theorem heap_push_old (w : World) (o : Obj) {b : Nat} (hb : b < w.heap.size) : (w.alloc o).heap[b]? = w.heap[b]? := by
 show (w.heap.push o)[b]? = _
 rw [Array.getElem?_push, if_neg (by omega)]
theorem heap_push_new (w : World) (o : Obj) : (w.alloc o).heap[w.heap.size]? = some o := by
 show (w.heap.push o)[w.heap.size]? = _
 rw [Array.getElem?_push, if_pos rfl]
theorem St.alloc {Γ H w} (h : St Γ H w) (o : Obj) : St Γ ((w.heap.size, o) :: H) (w.alloc o) where
 imm b o' hb := by rw [heap_push_old _ _ (h.ltImm hb)]; exact h.imm b o' hb
 own b o' hm := by
  rcases List.mem_cons.1 hm with hm | hm
  ·injection hm with h1 h2; subst h1 h2; exact heap_push_new _ _
  ·rw [heap_push_old _ _ (h.lt hm)]; exact h.own b o' hm
 nodup := by
  simp only [List.map_cons, List.nodup_cons]
  refine ⟨fun hc => ?_, h.nodup⟩
  obtain ⟨⟨b, o'⟩, hm, hb⟩ := List.mem_map.1 hc
  have := h.lt hm
  simp only at hb; omega
 apart b o' hm := by
  rcases List.mem_cons.1 hm with hm | hm
  ·injection hm with h1 h2; subst h1
   cases he : Γ.imm w.heap.size with
   | none => rfl
   | some o'' => have := h.ltImm he; omega
  ·exact h.apart b o' hm
 os := h.os
 tape := h.tape
 output := h.output
theorem St.drew {Γ H w} (h : St Γ H w) : St Γ H w.drew := ⟨h.imm, h.own, h.nodup, h.apart, h.os, h.tape, h.output⟩
theorem St.drawn {Γ H w} (h : St Γ H w) (n : Nat) : St Γ H { w with drawn := n } := ⟨h.imm, h.own, h.nodup, h.apart, h.os, h.tape, h.output⟩
theorem St.put {Γ b o H w w'} (h : St Γ ((b, o) :: H) w) (o' : Obj) (hs : ∀ k, k ≠ b → w'.heap[k]? = w.heap[k]?) (hn : w'.heap[b]? = some o')
  (ho : w'.os = w.os) (ht : w'.tape = w.tape) (hp : w'.output = w.output) : St Γ ((b, o') :: H) w' where
 imm k o'' hk := by
  have : k ≠ b := fun e => by subst e; have := h.apart k o (List.mem_cons_self ..); rw [this] at hk; cases hk
  rw [hs k this]; exact h.imm k o'' hk
 own k o'' hm := by
  rcases List.mem_cons.1 hm with hm' | hm'
  ·injection hm' with h1 h2; subst h1 h2; exact hn
  ·have : k ≠ b := fun e => by
    subst e; have := (List.nodup_cons.1 h.nodup).1
    exact this (List.mem_map.2 ⟨(k, o''), hm', rfl⟩)
   rw [hs k this]; exact h.own k o'' (List.mem_cons_of_mem _ hm')
 nodup := by simpa using h.nodup
 apart k o'' hm := by
  rcases List.mem_cons.1 hm with hm | hm
  ·injection hm with h1 h2; subst h1; exact h.apart k o (List.mem_cons_self ..)
  ·exact h.apart k o'' (List.mem_cons_of_mem _ hm)
 os := ho.trans h.os
 tape := ht.trans h.tape
 output := hp.trans h.output
theorem St.freeze {Γ b o H w} (h : St Γ ((b, o) :: H) w) : St (Γ.add b o) H w where
 imm k o' hk := by
  unfold Env.add at hk
  simp only at hk
  split at hk
  ·next e => subst e; injection hk with hk; subst hk; exact h.own k o (List.mem_cons_self ..)
  ·exact h.imm k o' hk
 own k o' hm := h.own k o' (List.mem_cons_of_mem _ hm)
 nodup := (List.nodup_cons.1 h.nodup).2
 apart k o' hm := by
  unfold Env.add
  simp only
  have : k ≠ b := fun e => by
   subst e; have := (List.nodup_cons.1 h.nodup).1
   exact this (List.mem_map.2 ⟨(k, o'), hm, rfl⟩)
  rw [if_neg this]; exact h.apart k o' (List.mem_cons_of_mem _ hm)
 os := h.os
 tape := h.tape
 output := h.output
theorem St.le_add {Γ b o H w} (h : St Γ ((b, o) :: H) w) : Γ.le (Γ.add b o) :=
 ⟨fun k o' hk => by
  unfold Env.add; simp only
  have : k ≠ b := fun e => by subst e; have := h.apart k o (List.mem_cons_self ..); rw [this] at hk; cases hk
  rw [if_neg this]; exact hk, rfl, rfl, rfl⟩
abbrev cel (l : List Value) (t : TypeId) : Obj := .cells l.toArray t (0, 0)
abbrev celF (l : List Value) (t : TypeId) (fz : Nat × Nat) : Obj := .cells l.toArray t fz
def thawed (fz : Nat × Nat) (n : Nat) : Prop := fz.2 ≤ fz.1 ∨ n ≤ fz.1
theorem cell_of_heap {w : World} {b o : Nat} {c : Array Value} {t : TypeId} {fz : Nat × Nat} (h : w.heap[b]? = some (.cells c t fz)) : w.cell? ⟨b, o, none⟩ = c[o]? := by
 simp [World.cell?, h]
theorem St.cell {Γ H w b c t fz H'} (h : St Γ H w) (p : Pick H b (.cells c t fz) H') (o : Nat) : w.cell? ⟨b, o, none⟩ = c[o]? :=
 cell_of_heap (h.own b _ (p.perm.mem_iff.2 (List.mem_cons_self ..)))
def Env.cell (Γ : Env) (b o : Nat) : Option Value :=
 match Γ.imm b with
 | some (.cells c _ _) => c[o]?
 | _ => none
theorem St.icell {Γ H w b o v} (h : St Γ H w) (e : Γ.cell b o = some v) : w.cell? ⟨b, o, none⟩ = some v := by
 unfold Env.cell at e
 split at e
 ·next c t fz hb => rw [cell_of_heap (h.imm b _ hb)]; exact e
 ·cases e
theorem Env.le.cell {Γ Γ' : Env} (h : Γ.le Γ') {b o v} (e : Γ.cell b o = some v) : Γ'.cell b o = some v := by
 unfold Env.cell at e ⊢
 split at e
 ·next c t fz hb => rw [h.imm b _ hb]; exact e
 ·cases e
def lset : List Value → Nat → Value → List Value
 | [], _, _ => []
 | _ :: l, 0, v => v :: l
 | x :: l, n + 1, v => x :: lset l n v
theorem frozenF_of_heap {w : World} {b o n : Nat} {c : Array Value} {t : TypeId} {fz : Nat × Nat} (h : w.heap[b]? = some (.cells c t fz)) (hz : thawed fz n) (ho : o < n) : w.frozen? ⟨b, o, none⟩ = false := by
 obtain ⟨lo, hi⟩ := fz
 simp only [World.frozen?, h]
 unfold thawed at hz
 simp only at hz
 by_cases h1 : lo ≤ o
 ·have : ¬ o < hi := by omega
  simp [this]
 ·simp [h1]
theorem setCell_same (w : World) {b o : Nat} {c : Array Value} {t : TypeId} {fz : Nat × Nat} (h : w.heap[b]? = some (.cells c t fz)) (v : Value) :
  (w.setCell ⟨b, o, none⟩ v).heap[b]? = some (.cells (c.setIfInBounds o v) t fz) := by
 simp only [World.setCell, Array.getElem?_modify, h, if_true, Option.map_some]
 rfl
theorem setCell_other (w : World) {b o k : Nat} (h : k ≠ b) (v : Value) : (w.setCell ⟨b, o, none⟩ v).heap[k]? = w.heap[k]? := by
 simp only [World.setCell, Array.getElem?_modify]
 rw [if_neg (fun e => h e.symm)]
theorem St.store {Γ H w b l t fz H'} (h : St Γ H w) (p : Pick H b (celF l t fz) H') (o : Nat) (v : Value) :
  St Γ ((b, celF (l.set o v) t fz) :: H') (w.setCell ⟨b, o, none⟩ v) := by
 have h' := h.perm p.perm
 refine h'.put (celF (l.set o v) t fz) (fun k hk => setCell_other w hk v) ?_ rfl rfl rfl
 rw [setCell_same w (h'.own b _ (List.mem_cons_self ..)) v]
 simp [celF]
structure TI where
 desc : TypeDesc
 size : Nat
 bytes : Nat
 zero : Value
 zc : List Value
def vcells : Value → List Value
 | .agg cs => cs.toList
 | v => [v]
theorem vcells_eq (v : Value) : v.cells.toList = vcells v := by cases v <;> rfl
inductive Tab where
 | nil
 | node (k : Nat) (i : TI) (l r : Tab)
def Tab.get : Tab → Nat → Option TI
 | .nil, _ => none
 | .node k i l r, t => bif Nat.beq t k then some i else bif Nat.blt t k then l.get t else r.get t
def TabFits (P : Program) (t : Nat) (i : TI) : Prop :=
 P.underlying t = some i.desc ∧ ∃ x, P.info? t = some x ∧ x.size = i.size ∧ x.bytes = i.bytes ∧ x.zero = some i.zero ∧ vcells i.zero = i.zc
def Tab.All (p : Nat → TI → Prop) : Tab → Prop
 | .nil => True
 | .node k i l r => p k i ∧ l.All p ∧ r.All p
theorem Tab.All.get {p : Nat → TI → Prop} : ∀ {T : Tab}, T.All p → ∀ {t i}, T.get t = some i → p t i
 | .nil, _, _, _, h => by cases h
 | .node k j l r, ⟨h0, hl, hr⟩, t, i, h => by
  simp only [Tab.get] at h
  cases e : Nat.beq t k with
  | true => rw [e] at h; injection h with h; subst h; rw [Nat.eq_of_beq_eq_true e]; exact h0
  | false =>
   rw [e] at h
   cases e2 : Nat.blt t k with
   | true => rw [e2] at h; exact Tab.All.get hl h
   | false => rw [e2] at h; exact Tab.All.get hr h
abbrev TabOk (P : Program) (T : Tab) : Prop := T.All (TabFits P)
theorem run_sizeOf' {P : Program} {t : Nat} {i : TI} (h : TabFits P t i) (w : World) : (sizeOf t).run P w = .ok i.size w := by
 obtain ⟨_, x, hx, hs, _⟩ := h
 simp [sizeOf, typeInfo, hx, hs]
theorem run_zeroValue' {P : Program} {t : Nat} {i : TI} (h : TabFits P t i) (w : World) : (zeroValue t).run P w = .ok i.zero w := by
 obtain ⟨_, x, hx, _, _, hz, _⟩ := h
 simp [zeroValue, typeInfo, hx, hz]
theorem run_underlying' {P : Program} {t : Nat} {i : TI} (h : TabFits P t i) (w : World) : (underlying t).run P w = .ok i.desc w := run_underlying h.1 w
def TypeDesc.agg : TypeDesc → Bool
 | .struct _ | .array _ _ => true
 | _ => false
theorem run_isAgg' {P : Program} {t : Nat} {i : TI} (h : TabFits P t i) (w : World) : (isAgg t).run P w = .ok (TypeDesc.agg i.desc) w := by
 simp only [isAgg, Sem.run_bind, run_underlying' h, Result.andThen_ok]
 cases i.desc <;> rfl
abbrev Regs := List (Nat × Value)
def rget : Regs → Nat → Option Value
 | [], _ => none
 | (i, v) :: r, j => bif Nat.beq i j then some v else rget r j
def lget : List Value → Nat → Option Value
 | [], _ => none
 | v :: _, 0 => some v
 | _ :: l, n + 1 => lget l n
theorem lget_eq (l : List Value) (n : Nat) : lget l n = l[n]? := by
 induction l generalizing n with
 | nil => rfl
 | cons x l ih => cases n <;> simp [lget, ih]
def fget : List Field → Nat → Option Field
 | [], _ => none
 | v :: _, 0 => some v
 | _ :: l, n + 1 => fget l n
theorem fget_eq (l : List Field) (n : Nat) : fget l n = l[n]? := by
 induction l generalizing n with
 | nil => rfl
 | cons x l ih => cases n <;> simp [fget, ih]
def ev (R : Regs) : Operand → Option Value
 | .tmp t => rget R t
 | .const v => some v
 | .global g => some (.pointer (some ⟨g, 0, none⟩))
 | .func f => some (.func (.func f) #[] #[])
def Fits (R : Regs) (a : Act) : Prop := ∀ i v, rget R i = some v → a.tmps[i]? = some v
theorem ev_eval {R : Regs} {a : Act} (h : Fits R a) {x : Operand} {v : Value} (e : ev R x = some v) : a.eval x = v := by
 cases x with
 | tmp t => simp only [ev] at e; have := h t v e; simp [Act.eval, Array.getD_eq_getD_getElem?, this]
 | const u => injection e with e
 | global g => exact Option.some.inj e
 | func f => exact Option.some.inj e
def evs (R : Regs) : List Operand → Option (List Value)
 | [] => some []
 | x :: l => match ev R x, evs R l with
  | some v, some vs => some (v :: vs)
  | _, _ => none
theorem evs_eval {R : Regs} {a : Act} (h : Fits R a) : ∀ {l : List Operand} {vs : List Value}, evs R l = some vs → l.map a.eval = vs
 | [], vs, e => by cases e; rfl
 | x :: l, vs, e => by
  simp only [evs] at e
  split at e
  ·next v vs' h1 h2 => injection e with e; subst e; simp [ev_eval h h1, evs_eval h h2]
  ·cases e
def kbeq : IntKind → IntKind → Bool
 | .i8, .i8 | .i16, .i16 | .i32, .i32 | .i64, .i64 | .u8, .u8 | .u16, .u16 | .u32, .u32 | .u64, .u64 => true
 | _, _ => false
theorem kbeq_eq {a b : IntKind} (h : kbeq a b = true) : a = b := by cases a <;> cases b <;> first | rfl | cases h
def Tab.desc (T : Tab) (t : Nat) : Option TypeDesc :=
 match T.get t with
 | some ⟨d, _, _, _, _⟩ => some d
 | none => none
def binI (op : BinOp) (k : IntKind) (a b : Int) : Option Value :=
 match op with
 | .add => some (.int k (k.wrap (a + b)))
 | .sub => some (.int k (k.wrap (a - b)))
 | .mul => some (.int k (k.wrap (a * b)))
 | .quo => bif decide (b = 0) then none else some (.int k (k.wrap (a.tdiv b)))
 | .rem => bif decide (b = 0) then none else some (.int k (a.tmod b))
 | .and => some (.int k (bits .and k a b))
 | .or => some (.int k (bits .or k a b))
 | .xor => some (.int k (bits .xor k a b))
 | .andNot => some (.int k (bits .andNot k a b))
 | .eql => some (.bool (a == b))
 | .neq => some (.bool (a != b))
 | .lss => some (.bool (decide (a < b)))
 | .leq => some (.bool (decide (a ≤ b)))
 | .gtr => some (.bool (decide (b < a)))
 | .geq => some (.bool (decide (b ≤ a)))
 | .shl | .shr => none
def bin (T : Tab) (op : BinOp) (t : TypeId) (x y : Value) (cy : Bool) : Option Value :=
 match x, y with
 | .int k a, .int k' b =>
  match op with
  | .shl => bif decide (b < 0) then none else some (.int k (k.wrap (a * 2 ^ min b.toNat k.bits)))
  | .shr => bif decide (b < 0) then none else some (.int k (a.fdiv (2 ^ min b.toNat k.bits)))
  | op => bif kbeq k k' then binI op k a b else none
 | .bool a, .bool b =>
  match op, T.desc t with
  | .eql, some .bool => some (.bool (a == b))
  | .neq, some .bool => some (.bool (!(a == b)))
  | _, _ => none
 | .string a, .string b =>
  match op with
  | .eql => some (.bool (a.toList == b.toList))
  | .neq => some (.bool (!(a.toList == b.toList)))
  | _ => none
 | .slice (some _) _ _, .slice none _ _ =>
  match op, T.desc t with
  | .eql, some (.slice _) => some (.bool false)
  | .neq, some (.slice _) => some (.bool true)
  | _, _ => none
 | .slice none _ _, .slice none _ _ =>
  match op, T.desc t with
  | .eql, some (.slice _) => some (.bool true)
  | .neq, some (.slice _) => some (.bool false)
  | _, _ => none
 | .pointer (some _), .pointer none =>
  match op, T.desc t with
  | .eql, some (.pointer _) => some (.bool false)
  | .neq, some (.pointer _) => some (.bool true)
  | _, _ => none
 | .pointer none, .pointer none =>
  match op, T.desc t with
  | .eql, some (.pointer _) => some (.bool true)
  | .neq, some (.pointer _) => some (.bool false)
  | _, _ => none
 | .iface _ _, .nilIface =>
  match op, T.desc t with
  | .eql, some (.interface _) => some (.bool false)
  | .neq, some (.interface _) => some (.bool true)
  | _, _ => none
 | .nilIface, .nilIface =>
  match op, T.desc t, cy with
  | .eql, some (.interface _), true => some (.bool true)
  | .neq, some (.interface _), true => some (.bool false)
  | _, _, _ => none
 | .map none, .map none =>
  match op, T.desc t with
  | .eql, some (.map _ _) => some (.bool true)
  | .neq, some (.map _ _) => some (.bool false)
  | _, _ => none
 | .map (some _), .map none =>
  match op, T.desc t with
  | .eql, some (.map _ _) => some (.bool false)
  | .neq, some (.map _ _) => some (.bool true)
  | _, _ => none
 | _, _ => none
def isC : Operand → Bool
 | .const _ => true
 | _ => false
def Tab.size (T : Tab) (t : Nat) : Option Nat :=
 match T.get t with
 | some ⟨_, s, _, _, _⟩ => some s
 | none => none
def Tab.bytes (T : Tab) (t : Nat) : Option Nat :=
 match T.get t with
 | some ⟨_, _, b, _, _⟩ => some b
 | none => none
def Tab.zc (T : Tab) (t : Nat) : Option (List Value) :=
 match T.get t with
 | some ⟨_, _, _, _, c⟩ => some c
 | none => none
theorem Tab.desc_ok {P : Program} {T : Tab} (hT : TabOk P T) {t : Nat} {d : TypeDesc} (h : T.desc t = some d) : P.underlying t = some d := by
 unfold Tab.desc at h
 split at h
 ·next d _ _ _ _ hi => injection h with h; subst h; exact (hT.get hi).1
 ·cases h
theorem binI_ok {P : Program} {op : BinOp} {t : TypeId} {k : IntKind} {a b : Int} {v : Value} (h : binI op k a b = some v) (w : World) :
  (binOp op t (.int k a) (.int k b)).run P w = .ok v w := by
 cases op <;> simp only [binI] at h
 case add => injection h with h; subst h; simp [binOp_add, Op.intArith]
 case sub => injection h with h; subst h; simp [binOp_sub, Op.intArith]
 case mul => injection h with h; subst h; simp [binOp_mul, Op.intArith]
 case quo =>
  by_cases hb : b = 0
  ·simp [hb] at h
  ·simp [hb] at h; subst h; simp [binOp_quo, Op.intDiv, hb]
 case rem =>
  by_cases hb : b = 0
  ·simp [hb] at h
  ·simp [hb] at h; subst h; simp [binOp_rem, Op.intDiv, hb]
 case and => injection h with h; subst h; simp [binOp_and, intBits_and]
 case or => injection h with h; subst h; simp [binOp_or, intBits_or]
 case xor => injection h with h; subst h; simp [binOp_xor, intBits_xor]
 case andNot => injection h with h; subst h; simp [binOp_andNot, intBits_andNot]
 case eql => injection h with h; subst h; simp [binOp_eql]
 case neq => injection h with h; subst h; simp [binOp_neq]
 case lss => injection h with h; subst h; simp [binOp_lss]
 case leq => injection h with h; subst h; simp [binOp_leq]
 case gtr => injection h with h; subst h; simp [binOp_gtr]
 case geq => injection h with h; subst h; simp [binOp_geq]
 case shl => cases h
 case shr => cases h
theorem eql_of {P : Program} {t : TypeId} {x y : Value} {r : Bool} (hb : binOp .eql t x y = (do pure (.bool (← Op.equal t x y)))) (h : ∀ d w, (Op.equalIn (d + 1) t x y).run P w = .ok r w) (w : World) :
  (binOp .eql t x y).run P w = .ok (.bool r) w := by
 rw [hb]; simp only [Sem.run_bind, Sem.run_pure, Result.andThen_ok, show (Op.equal t x y).run P w = .ok r w from h 9999 w]
theorem neq_of {P : Program} {t : TypeId} {x y : Value} {r : Bool} (hb : binOp .neq t x y = (do pure (.bool (!(← Op.equal t x y))))) (h : ∀ d w, (Op.equalIn (d + 1) t x y).run P w = .ok r w) (w : World) :
  (binOp .neq t x y).run P w = .ok (.bool (!r)) w := by
 rw [hb]; simp only [Sem.run_bind, Sem.run_pure, Result.andThen_ok, show (Op.equal t x y).run P w = .ok r w from h 9999 w]
theorem eql_ofR {P : Program} {t : TypeId} {x y v : Value} {r : Bool} (hb : binOp .eql t x y = (do pure (.bool (← Op.equal t x y)))) (h : ∀ d w, (Op.equalIn (d + 1) t x y).run P w = .ok r w) (w : World) (hv : v = .bool r) :
  (binOp .eql t x y).run P w = .ok v w := hv ▸ eql_of hb h w
theorem neq_ofR {P : Program} {t : TypeId} {x y v : Value} {r : Bool} (hb : binOp .neq t x y = (do pure (.bool (!(← Op.equal t x y))))) (h : ∀ d w, (Op.equalIn (d + 1) t x y).run P w = .ok r w) (w : World) (hv : v = .bool (!r)) :
  (binOp .neq t x y).run P w = .ok v w := hv ▸ neq_of hb h w
theorem bin_ok {P : Program} {T : Tab} (hT : TabOk P T) {op : BinOp} {t : TypeId} {xo yo : Operand} {x y v : Value} (h : bin T op t x y (isC yo) = some v) (w : World) :
  (do eqGuard op t xo yo x y; binOp op t x y : Sem Value).run P w = .ok v w := by
 unfold bin at h
 split at h
 ·next k a k' b =>
  rw [eqGuard_at_int, pure_bind]
  split at h
  ·by_cases hb : b < 0
   ·simp [hb] at h
   ·simp [hb] at h; subst h; simp [binOp_shl, Op.shift, hb]
  ·by_cases hb : b < 0
   ·simp [hb] at h
   ·simp [hb] at h; subst h; simp [binOp_shr, Op.shift, hb]
  ·cases hk : kbeq k k' with
   | true => rw [hk] at h; have := kbeq_eq hk; subst this; simpa using binI_ok h w
   | false => rw [hk] at h; cases h
 ·next a b =>
  rw [eqGuard_at_bool, pure_bind]
  split at h
  ·next hd => injection h with h; subst h; have := Tab.desc_ok hT hd; simpa using run_eql_bool w t a b this
  ·next hd => injection h with h; subst h; have := Tab.desc_ok hT hd; simpa using run_neq_bool w t a b this
  ·cases h
 ·next a b =>
  rw [eqGuard_at_string, pure_bind]
  split at h
  ·injection h with h; subst h; simp [binOp, Op.stringOp]
  ·injection h with h; subst h; simp [binOp, Op.stringOp]
  ·cases h
 ·rw [eqGuard_at_slice, pure_bind]
  split at h
  ·next hd => injection h with h; subst h; have := Tab.desc_ok hT hd; refine eql_ofR (r := false) ?_ ?_ w rfl; (· rfl); (· intro d w'; rw [Op.equalIn]; simp only [Sem.run_bind, run_underlying this, Result.andThen_ok]; rfl)
  ·next hd => injection h with h; subst h; have := Tab.desc_ok hT hd; refine neq_ofR (r := false) ?_ ?_ w rfl; (· rfl); (· intro d w'; rw [Op.equalIn]; simp only [Sem.run_bind, run_underlying this, Result.andThen_ok]; rfl)
  ·cases h
 ·rw [eqGuard_at_slice, pure_bind]
  split at h
  ·next hd => injection h with h; subst h; have := Tab.desc_ok hT hd; refine eql_ofR (r := true) ?_ ?_ w rfl; (· rfl); (· intro d w'; rw [Op.equalIn]; simp only [Sem.run_bind, run_underlying this, Result.andThen_ok]; rfl)
  ·next hd => injection h with h; subst h; have := Tab.desc_ok hT hd; refine neq_ofR (r := true) ?_ ?_ w rfl; (· rfl); (· intro d w'; rw [Op.equalIn]; simp only [Sem.run_bind, run_underlying this, Result.andThen_ok]; rfl)
  ·cases h
 ·rw [eqGuard_at_pointer, pure_bind]
  split at h
  ·next hd => injection h with h; subst h; have := Tab.desc_ok hT hd; refine eql_ofR (r := false) ?_ ?_ w rfl; (· rfl); (· intro d w'; rw [Op.equalIn]; simp only [Sem.run_bind, run_underlying this, Result.andThen_ok]; rfl)
  ·next hd => injection h with h; subst h; have := Tab.desc_ok hT hd; refine neq_ofR (r := false) ?_ ?_ w rfl; (· rfl); (· intro d w'; rw [Op.equalIn]; simp only [Sem.run_bind, run_underlying this, Result.andThen_ok]; rfl)
  ·cases h
 ·rw [eqGuard_at_pointer, pure_bind]
  split at h
  ·next hd => injection h with h; subst h; have := Tab.desc_ok hT hd; refine eql_ofR (r := true) ?_ ?_ w rfl; (· rfl); (· intro d w'; rw [Op.equalIn]; simp only [Sem.run_bind, run_underlying this, Result.andThen_ok]; rfl)
  ·next hd => injection h with h; subst h; have := Tab.desc_ok hT hd; refine neq_ofR (r := true) ?_ ?_ w rfl; (· rfl); (· intro d w'; rw [Op.equalIn]; simp only [Sem.run_bind, run_underlying this, Result.andThen_ok]; rfl)
  ·cases h
 ·rw [eqGuard_at_iface, pure_bind]
  split at h
  ·next hd => injection h with h; subst h; have := Tab.desc_ok hT hd; refine eql_ofR (r := false) ?_ ?_ w rfl; (· rfl); (· intro d w'; rw [Op.equalIn]; simp only [Sem.run_bind, run_underlying this, Result.andThen_ok]; rfl)
  ·next hd => injection h with h; subst h; have := Tab.desc_ok hT hd; refine neq_ofR (r := false) ?_ ?_ w rfl; (· rfl); (· intro d w'; rw [Op.equalIn]; simp only [Sem.run_bind, run_underlying this, Result.andThen_ok]; rfl)
  ·cases h
 ·split at h
  ·next hd hc =>
   injection h with h; subst h; have := Tab.desc_ok hT hd
   cases yo with
   | const c => rw [eqGuard_nil_constR, pure_bind]; refine eql_ofR (r := true) ?_ ?_ w rfl; (· rfl); (· intro d w'; rw [Op.equalIn]; simp only [Sem.run_bind, run_underlying this, Result.andThen_ok]; rfl)
   | _ => cases hc
  ·next hd hc =>
   injection h with h; subst h; have := Tab.desc_ok hT hd
   cases yo with
   | const c => rw [eqGuard_nil_constR, pure_bind]; refine neq_ofR (r := true) ?_ ?_ w rfl; (· rfl); (· intro d w'; rw [Op.equalIn]; simp only [Sem.run_bind, run_underlying this, Result.andThen_ok]; rfl)
   | _ => cases hc
  ·cases h
 ·rw [eqGuard_at_map, pure_bind]
  split at h
  ·next hd => injection h with h; subst h; have := Tab.desc_ok hT hd; refine eql_ofR (r := true) ?_ ?_ w rfl; (· rfl); (· intro d w'; rw [Op.equalIn]; simp only [Sem.run_bind, run_underlying this, Result.andThen_ok]; rfl)
  ·next hd => injection h with h; subst h; have := Tab.desc_ok hT hd; refine neq_ofR (r := true) ?_ ?_ w rfl; (· rfl); (· intro d w'; rw [Op.equalIn]; simp only [Sem.run_bind, run_underlying this, Result.andThen_ok]; rfl)
  ·cases h
 ·rw [eqGuard_at_map, pure_bind]
  split at h
  ·next hd => injection h with h; subst h; have := Tab.desc_ok hT hd; refine eql_ofR (r := false) ?_ ?_ w rfl; (· rfl); (· intro d w'; rw [Op.equalIn]; simp only [Sem.run_bind, run_underlying this, Result.andThen_ok]; rfl)
  ·next hd => injection h with h; subst h; have := Tab.desc_ok hT hd; refine neq_ofR (r := false) ?_ ?_ w rfl; (· rfl); (· intro d w'; rw [Op.equalIn]; simp only [Sem.run_bind, run_underlying this, Result.andThen_ok]; rfl)
  ·cases h
 ·cases h
open Go Go.BigFrame
def lput : List Value → List Value → List Value
 | [], l => l
 | _ :: _, [] => []
 | v :: vs, _ :: l => v :: lput vs l
def lsplice : Nat → List Value → List Value → List Value
 | 0, new, l => lput new l
 | _ + 1, _, [] => []
 | n + 1, new, x :: l => x :: lsplice n new l
theorem lput_length : ∀ {new l : List Value}, new.length ≤ l.length → (lput new l).length = l.length
 | [], _, _ => rfl
 | _ :: _, [], h => by simp at h
 | v :: vs, x :: l, h => by simp only [lput, List.length_cons]; rw [lput_length (by simpa using h)]
theorem lsplice_length : ∀ {n : Nat} {new l : List Value}, n + new.length ≤ l.length → (lsplice n new l).length = l.length
 | 0, _, _, h => lput_length (by omega)
 | n + 1, new, [], h => by simp at h
 | n + 1, new, x :: l, h => by simp only [lsplice, List.length_cons]; rw [lsplice_length (by simp at h; omega)]
theorem lsplice_get : ∀ {n : Nat} {new l : List Value}, n + new.length ≤ l.length → ∀ k, (lsplice n new l)[k]? = if n ≤ k ∧ k < n + new.length then new[k - n]? else l[k]?
 | 0, [], l, _, k => by simp [lsplice, lput]
 | 0, v :: vs, [], h, k => by simp at h
 | 0, v :: vs, x :: l, h, 0 => by simp [lsplice, lput]
 | 0, v :: vs, x :: l, h, k + 1 => by
  have := lsplice_get (n := 0) (new := vs) (l := l) (by simp at h ⊢; omega) k
  simp only [lsplice, lput, List.getElem?_cons_succ, List.length_cons] at this ⊢
  rw [this]
  by_cases hk : k < vs.length <;> simp [hk]
 | n + 1, new, [], h, k => by simp at h
 | n + 1, new, x :: l, h, 0 => by simp [lsplice]
 | n + 1, new, x :: l, h, k + 1 => by
  have := lsplice_get (n := n) (new := new) (l := l) (by simp at h; omega) k
  simp only [lsplice, List.getElem?_cons_succ]
  rw [this]
  by_cases hk : n ≤ k ∧ k < n + new.length
  ·rw [if_pos hk, if_pos (by omega)]; congr 1; omega
  ·rw [if_neg hk, if_neg (by omega)]
theorem foldl_put (off : Nat) : ∀ (new : List Value) (i : Nat) (cs : Array Value), off + i + new.length ≤ cs.size →
  ((new.zipIdx i).foldl (fun cs (x : Value × Nat) => cs.setIfInBounds (off + x.2) x.1) cs).toList = lsplice (off + i) new cs.toList
 | [], i, cs, h => by
  simp only [List.zipIdx_nil, List.foldl_nil]
  apply List.ext_getElem?; intro k
  rw [lsplice_get (by simpa using h)]
  simp; intro _ _; omega
 | v :: new, i, cs, h => by
  simp only [List.zipIdx_cons, List.foldl_cons]
  rw [foldl_put off new (i + 1) _ (by simp at h ⊢; omega)]
  apply List.ext_getElem?; intro k
  rw [lsplice_get (by simp at h ⊢; omega), lsplice_get (by simp at h ⊢; omega)]
  simp only [Array.toList_setIfInBounds, List.getElem?_set, List.length_cons]
  by_cases h1 : off + (i + 1) ≤ k ∧ k < off + (i + 1) + new.length
  ·rw [if_pos h1, if_pos (by omega)]
   rw [show k - (off + i) = (k - (off + (i + 1))) + 1 by omega, List.getElem?_cons_succ]
  ·rw [if_neg h1]
   by_cases h2 : off + i = k
   ·subst h2
    rw [if_pos rfl, if_pos (by simp at h; simp; omega), if_pos (by omega)]
    simp
   ·rw [if_neg h2, if_neg (by omega)]
def llen : List Value → Nat
 | [] => 0
 | _ :: l => llen l + 1
theorem llen_eq (l : List Value) : llen l = l.length := by induction l <;> simp [llen, *]
def fillP (T : Tab) (fs : List Field) (cells : List Value) : List (Nat × Value) → Option (List Value)
 | [] => some cells
 | (i, v) :: rest =>
  match fget fs i with
  | some ⟨_, ty, off, _, _, _, _⟩ => match T.size ty with
   | some j => bif Nat.beq (llen (vcells v)) j && Nat.ble (off + llen (vcells v)) (llen cells) then fillP T fs (lsplice off (vcells v) cells) rest else none
   | none => none
  | none => none
def allIn (T : Tab) : List Field → Bool
 | [] => true
 | f :: fs => (T.get f.type).isSome && allIn T fs
def evp (R : Regs) : List (Nat × Operand) → Option (List (Nat × Value))
 | [] => some []
 | (i, x) :: l => match ev R x, evp R l with
  | some v, some vs => some ((i, v) :: vs)
  | _, _ => none
theorem evp_eval {R : Regs} {a : Act} (h : Fits R a) : ∀ {l : List (Nat × Operand)} {vs : List (Nat × Value)}, evp R l = some vs → l.map (fun x => (x.1, a.eval x.2)) = vs
 | [], vs, e => by cases e; rfl
 | (i, x) :: l, vs, e => by
  simp only [evp] at e
  split at e
  ·next v vs' h1 h2 => injection e with e; subst e; simp [ev_eval h h1, evp_eval h h2]
  ·cases e
def places (T : Tab) : List Field → Option (List (Nat × Nat))
 | [] => some []
 | f :: fs => match T.get f.type, places T fs with
  | some i, some l => some ((f.offset, i.size) :: l)
  | _, _ => none
theorem mapM_places {P : Program} {T : Tab} (hT : TabOk P T) : ∀ {fs : List Field} {l : List (Nat × Nat)}, places T fs = some l → ∀ w,
  (fs.mapM fun f => do pure (f.offset, ← sizeOf f.type) : Sem (List (Nat × Nat))).run P w = .ok l w
 | [], l, h, w => by cases h; rfl
 | f :: fs, l, h, w => by
  simp only [places] at h
  split at h
  ·next i l' hi hl =>
   injection h with h; subst h
   simp only [List.mapM_cons, Sem.run_bind, run_sizeOf' (hT.get hi), Result.andThen_ok, Sem.run_pure, mapM_places hT hl w]
  ·cases h
theorem Tab.size_get {T : Tab} {t : Nat} {i : TI} (h : T.get t = some i) : T.size t = some i.size := by
 unfold Tab.size; rw [h]
theorem places_get {T : Tab} : ∀ {fs : List Field} {l : List (Nat × Nat)}, places T fs = some l → ∀ {i fd j}, fget fs i = some fd → T.size fd.type = some j → l[i]? = some (fd.offset, j)
 | [], l, h, i, fd, j, hf, _ => by cases hf
 | f :: fs, l, h, i, fd, j, hf, hj => by
  simp only [places] at h
  split at h
  ·next i' l' hi hl =>
   injection h with h; subst h
   cases i with
   | zero => injection hf with hf; subst hf; rw [Tab.size_get hi] at hj; injection hj with hj; subst hj; rfl
   | succ i => simpa using places_get hl hf hj
  ·cases h
theorem fill_ok {T : Tab} {fs : List Field} {l : List (Nat × Nat)} (hl : places T fs = some l) : ∀ {ps : List (Nat × Value)} {cells : List Value} {out : List Value}, fillP T fs cells ps = some out →
  Instr.fill (fun i => l.toArray[i]?) cells.toArray ps = some out.toArray
 | [], cells, out, h => by injection h with h; subst h; rfl
 | (i, v) :: ps, cells, out, h => by
  simp only [fillP] at h
  split at h
  ·next nm ty off em tg pk bo hfd =>
   split at h
   ·next j hj =>
    cases hc : (Nat.beq (llen (vcells v)) j && Nat.ble (off + llen (vcells v)) (llen cells)) with
    | false => rw [hc] at h; cases h
    | true =>
     rw [hc] at h
     simp only [cond_true] at h
     rw [Bool.and_eq_true] at hc
     have h1 : llen (vcells v) = j := Nat.eq_of_beq_eq_true hc.1
     have h2 : off + llen (vcells v) ≤ llen cells := Nat.le_of_ble_eq_true hc.2
     rw [llen_eq] at h1 h2
     rw [llen_eq] at h2
     rw [← vcells_eq, Array.length_toList] at h1 h2
     have hp : l.toArray[i]? = some (off, j) := by simpa using places_get hl hfd hj
     rw [Instr.fill]
     simp only [hp]
     rw [if_neg (by simp [h1]; omega)]
     have := fill_ok hl h
     rw [← this]
     congr 1
     have h3 := foldl_put off v.cells.toList 0 cells.toArray (by simp; omega)
     apply Array.ext'
     rw [← vcells_eq] 
     simp only [Nat.add_zero] at h3
     rw [← h3]
     rw [← Array.foldl_toList]
     simp
   ·cases h
  ·cases h
theorem run_sizeOf'' {P : Program} {T : Tab} (hT : TabOk P T) {t s : Nat} (h : T.size t = some s) (w : World) : (sizeOf t).run P w = .ok s w := by
 unfold Tab.size at h
 split at h
 ·next hi => injection h with h; subst h; exact run_sizeOf' (hT.get hi) w
 ·cases h
def fieldOff (T : Tab) (s f : Nat) : Option Nat :=
 match T.desc s with
 | some (.struct fs) => match fget fs.toList f with
  | some ⟨_, ty, off, _, _, _, _⟩ => match T.size ty with
   | some j => bif Nat.beq j 0 then none else some off
   | none => none
  | none => none
 | _ => none
def ldrop : Nat → List Value → List Value
 | 0, l => l
 | _ + 1, [] => []
 | n + 1, _ :: l => ldrop n l
theorem ldrop_eq : ∀ (n : Nat) (l : List Value), ldrop n l = l.drop n
 | 0, l => rfl
 | n + 1, [] => rfl
 | n + 1, _ :: l => by simp [ldrop, ldrop_eq n l]
def ltake : Nat → List Value → List Value
 | 0, _ => []
 | _ + 1, [] => []
 | n + 1, x :: l => x :: ltake n l
theorem ltake_eq : ∀ (n : Nat) (l : List Value), ltake n l = l.take n
 | 0, l => by simp [ltake]
 | n + 1, [] => rfl
 | n + 1, _ :: l => by simp [ltake, ltake_eq n l]
def partP (T : Tab) (t : TypeId) (cs : List Value) (off : Nat) : Option Value :=
 match T.get t with
 | some i => bif TypeDesc.agg i.desc then some (.agg (ltake i.size (ldrop off cs)).toArray) else lget cs off
 | none => none
theorem part_ok {P : Program} {T : Tab} (hT : TabOk P T) {t : TypeId} {cs : List Value} {off : Nat} {v : Value} (h : partP T t cs off = some v) (w : World) :
  (part t cs.toArray off).run P w = .ok v w := by
 unfold partP at h
 split at h
 ·next i hi =>
  simp only [part, Sem.run_bind, run_isAgg' (hT.get hi), Result.andThen_ok]
  cases ha : TypeDesc.agg i.desc with
  | true =>
   rw [ha] at h; injection h with h; subst h
   simp only [if_true, Sem.run_bind, run_sizeOf' (hT.get hi), Result.andThen_ok, Sem.run_pure]
   congr 2
   apply Array.ext'
   simp [ltake_eq, ldrop_eq, List.drop_take]
  | false =>
   rw [ha] at h
   simp only [cond_false, lget_eq] at h
   simp [h]
 ·cases h
def evalP (T : Tab) (R : Regs) : Op → Option Value
 | .move x => ev R x
 | .assign x => ev R x
 | .pick c a b => match ev R c with
  | some (.bool true) => ev R a
  | some (.bool false) => ev R b
  | _ => none
 | .nilCheck x => match ev R x with
  | some (.pointer (some a)) => some (.pointer (some a))
  | some (.func (.func f) p q) => some (.func (.func f) p q)
  | _ => none
 | .fieldAddr s x f => match ev R x with
  | some (.pointer (some ⟨b, o, none⟩)) => match fieldOff T s f with
   | some k => some (.pointer (some ⟨b, o + k, none⟩))
   | none => none
  | _ => none
 | .extract x i => match ev R x with
  | some (.tuple vs) => lget vs.toList i
  | _ => none
 | .unOp .not _ x => match ev R x with
  | some (.bool b) => some (.bool (!b))
  | _ => none
 | .unOp .neg _ x => match ev R x with
  | some (.int k n) => some (.int k (k.wrap (0 - n)))
  | _ => none
 | .binOp op t x y _ => match ev R x, ev R y with
  | some a, some b => bin T op t a b (isC y)
  | _, _ => none
 | .convert s d x => match T.get s, T.desc d, ev R x with
  | some _, some (.int k), some (.int _ n) => some (.int k (k.wrap n))
  | some _, some .string, some (.string s) => some (.string s)
  | _, _, _ => none
 | .makeInterface t x => match T.desc t, ev R x with
  | some (.interface _), _ => none
  | some _, some v => some (.iface t v)
  | _, _ => none
 | .makeFunc fn first captured => match evs R first.toList, evs R captured.toList with
  | some a, some b => some (.func fn a.toArray b.toArray)
  | _, _ => none
 | .field t x f => match ev R x, T.desc t with
  | some (.agg cs), some (.struct fs) => match fget fs.toList f with
   | some fd => partP T fd.type cs.toList fd.offset
   | none => none
  | _, _ => none
 | .call { callee := .builtin .len, args := xs, argTypes := ts } => match evs R xs.toList, ts.toList with
  | some [.slice _ n _], [t] => match T.desc t with
   | some (.slice _) => some (.int .i64 (n : Int))
   | _ => none
  | some [.string s], [t] => match T.desc t with
   | some .string => some (.int .i64 (s.size : Int))
   | _ => none
  | _, _ => none
 | .call { callee := .builtin .cap, args := xs, argTypes := ts } => match evs R xs.toList, ts.toList with
  | some [.slice _ _ n], [t] => match T.desc t with
   | some (.slice _) => some (.int .i64 (n : Int))
   | _ => none
  | _, _ => none
 | .typeAssert x _ t ok => match ev R x, T.get t with
  | some (.iface d v), some i => match i.desc with
   | .interface _ => none
   | _ => bif Nat.beq d t then some (bif ok then .tuple #[v, .bool true] else v) else bif ok then some (.tuple #[i.zero, .bool false]) else none
  | some .nilIface, some i => match i.desc with
   | .interface _ => none
   | _ => bif ok then some (.tuple #[i.zero, .bool false]) else none
  | _, _ => none
 | _ => none
def evalB (T : Tab) (R : Regs) (t : TypeId) (ps : Array (Nat × Operand)) : Option (List Value) :=
 match T.desc t, T.zc t with
 | some (.struct fs), some zc => match evp R ps.toList, places T fs.toList with
  | some vs, some _ => fillP T fs.toList zc vs
  | _, _ => none
 | _, _ => none
theorem evs_map {R : Regs} {a : Act} (h : Fits R a) {xs : Array Operand} {vs : List Value} (e : evs R xs.toList = some vs) : xs.map a.eval = vs.toArray := by
 apply Array.ext'
 simpa using evs_eval h e
theorem fieldPlace_ok {P : Program} {T : Tab} (hT : TabOk P T) {s f k : Nat} (h : fieldOff T s f = some k) (b o : Nat) (w : World) :
  (Instr.fieldAt s (.pointer (some ⟨b, o, none⟩)) f).run P w = .ok (.pointer (some ⟨b, o + k, none⟩)) w := by
 unfold fieldOff at h
 split at h
 ·next fs hd =>
  split at h
  ·next nm ty off em tg pk bo hf =>
   split at h
   ·next j hj =>
    cases hz : Nat.beq j 0 with
    | true => rw [hz] at h; cases h
    | false =>
     rw [hz] at h; injection h with h; subst h
     have hz' : j ≠ 0 := fun e => by rw [e] at hz; cases hz
     rw [fget_eq] at hf
     have hf' : fs[f]? = some ⟨nm, ty, off, em, tg, pk, bo⟩ := by simpa using hf
     simp [Instr.fieldAt, run_underlying (Tab.desc_ok hT hd), hf', Instr.sureAddr, fieldPlace, run_sizeOf'' hT hj, hz', Addr.add_lit]
   ·cases h
  ·cases h
 ·cases h
theorem evalP_ok {P : Program} {T : Tab} (hT : TabOk P T) {R : Regs} {a : Act} (hR : Fits R a) {op : Op} {v : Value} (h : evalP T R op = some v)
  (dst : Option Tmp) (ty : TypeId) (pos : String) (aft : Array Edge) (g : Option (Nat × Bool)) (w : World) :
  (execOp a.eval ⟨dst, op, ty, pos, aft, g⟩).run P w = .ok (.value v) w := by
 unfold evalP at h
 split at h
 ·next x => simp [execOp, ev_eval hR h]
 ·next x => simp [execOp, ev_eval hR h]
 ·next c x y =>
  split at h
  ·next hc => simp [execOp, ev_eval hR hc, ev_eval hR h, asBool]
  ·next hc => simp [execOp, ev_eval hR hc, ev_eval hR h, asBool]
  ·cases h
 ·next x =>
  split at h
  ·next hx => injection h with h; subst h; simp [execOp, ev_eval hR hx]
  ·next hx => injection h with h; subst h; simp [execOp, ev_eval hR hx]
  ·cases h
 ·next s x f =>
  split at h
  ·next hx =>
   split at h
   ·next k hk => injection h with h; subst h; simp [execOp, ev_eval hR hx, fieldPlace_ok hT hk]
   ·cases h
  ·cases h
 ·next x i =>
  split at h
  ·next vs hx => rw [lget_eq] at h; have h' : vs[i]? = some v := by simpa using h
                 simp [execOp, ev_eval hR hx, Instr.extract, h']
  ·cases h
 ·next x =>
  split at h
  ·next hx => injection h with h; subst h; simp [execOp, ev_eval hR hx, Op.unary]
  ·cases h
 ·next x =>
  split at h
  ·next hx => injection h with h; subst h; simp [execOp, ev_eval hR hx, Op.unary, Op.intArith]
  ·cases h
 ·next op t x y _ =>
  split at h
  ·next u1 u2 h1 h2 =>
   have := bin_ok hT (xo := x) (yo := y) h w
   simp only [execOp, ev_eval hR h1, ev_eval hR h2, Sem.run_bind] at this ⊢
   rw [this]; rfl
  ·cases h
 ·next s d x =>
  split at h
  ·next i k k' n h1 h2 h3 =>
   injection h with h; subst h
   simp only [execOp, ev_eval hR h3, convert, Sem.run_bind, run_underlying' (hT.get h1), run_underlying (Tab.desc_ok hT h2), Result.andThen_ok]
   simp [Conv.intToInt]
  ·next i s h1 h2 h3 =>
   injection h with h; subst h
   simp only [execOp, ev_eval hR h3, convert, Sem.run_bind, run_underlying' (hT.get h1), run_underlying (Tab.desc_ok hT h2), Result.andThen_ok]
   simp
  ·cases h
 ·next t x =>
  split at h
  ·cases h
  ·next d u hn h1 h2 =>
   injection h with h; subst h
   simp only [execOp, ev_eval hR h2, Instr.makeInterface, Sem.run_bind, run_underlying (Tab.desc_ok hT h1), Result.andThen_ok]
   cases d <;> first | rfl | (exact absurd rfl (hn _ _))
  ·cases h
 ·next fn first captured =>
  split at h
  ·next a1 b1 h1 h2 =>
   injection h with h; subst h
   simp [execOp, evs_map hR h1, evs_map hR h2, Instr.makeFunc]
  ·cases h
 ·next t x f =>
  split at h
  ·next cs fs h1 h2 =>
   split at h
   ·next fd hf =>
    rw [fget_eq] at hf
    have hf' : fs[f]? = some fd := by simpa using hf
    have := part_ok hT h w
    simp [execOp, ev_eval hR h1, Instr.field, run_underlying (Tab.desc_ok hT h2), hf', asAgg] at this ⊢
    rw [this]; rfl
   ·cases h
  ·cases h
 ·next xs ts =>
  split at h
  ·next n c b t h1 h2 =>
   split at h
   ·next hd =>
    injection h with h; subst h
    have hts : ts = #[t] := Array.ext' h2
    subst hts
    simp only [execOp_builtin, builtin_len, evs_map hR h1]
    simp [Builtin.len_, run_underlying (Tab.desc_ok hT hd), goInt]
   ·cases h
  ·next s t h1 h2 =>
   split at h
   ·next hd =>
    injection h with h; subst h
    have hts : ts = #[t] := Array.ext' h2
    subst hts
    simp only [execOp_builtin, builtin_len, evs_map hR h1]
    simp [Builtin.len_, run_underlying (Tab.desc_ok hT hd), goInt]
   ·cases h
  ·cases h
 ·next xs ts =>
  split at h
  ·next n c b t h1 h2 =>
   split at h
   ·next hd =>
    injection h with h; subst h
    have hts : ts = #[t] := Array.ext' h2
    subst hts
    simp only [execOp_builtin, builtin_cap, evs_map hR h1]
    simp [Builtin.cap_, run_underlying (Tab.desc_ok hT hd), goInt]
   ·cases h
  ·cases h
 ·next x xt t ok =>
  split at h
  ·next d u i h1 h2 =>
   split at h
   ·cases h
   ·next hn =>
    have hu := run_underlying' (hT.get h2) w
    have hz := run_zeroValue' (hT.get h2) w
    simp only [execOp, Instr.typeAssert, Sem.run_bind, hu, Result.andThen_ok, ev_eval hR h1]
    cases hb : Nat.beq d t with
    | true =>
     rw [hb] at h; injection h with h; subst h
     have := Nat.eq_of_beq_eq_true hb; subst this
     cases hd : i.desc <;> first | exact absurd hd (hn _) | (cases ok <;> simp)
    | false =>
     rw [hb] at h
     have hne : d ≠ t := fun e => by subst e; rw [Nat.beq_refl] at hb; cases hb
     cases ok with
     | false => cases h
     | true =>
      injection h with h; subst h
      cases hd : i.desc <;> first | exact absurd hd (hn _) | simp [hne, hz]
  ·next i h1 h2 =>
   split at h
   ·cases h
   ·next hn =>
    have hu := run_underlying' (hT.get h2) w
    have hz := run_zeroValue' (hT.get h2) w
    simp only [execOp, Instr.typeAssert, Sem.run_bind, hu, Result.andThen_ok, ev_eval hR h1]
    cases ok with
    | false => cases h
    | true =>
     injection h with h; subst h
     cases hd : i.desc <;> first | exact absurd hd (hn _) | simp [hz]
  ·cases h
 ·cases h
theorem evalB_ok {P : Program} {T : Tab} (hT : TabOk P T) {R : Regs} {a : Act} (hR : Fits R a) {t : TypeId} {ps : Array (Nat × Operand)} {out : List Value} (h : evalB T R t ps = some out)
  (dst : Option Tmp) (ty : TypeId) (pos : String) (aft : Array Edge) (g : Option (Nat × Bool)) (w : World) :
  (execOp a.eval ⟨dst, .build t ps, ty, pos, aft, g⟩).run P w = .ok (.value (.agg out.toArray)) w := by
 unfold evalB at h
 split at h
 ·next fs zc hd hzc =>
  split at h
  ·next vs l hv hl =>
   unfold Tab.desc at hd
   split at hd
   ·next d s b z c hi =>
    injection hd with hd; subst hd
    unfold Tab.zc at hzc
    rw [hi] at hzc; injection hzc with hzc; subst hzc
    have h1 := fill_ok hl h
    have hz : c.toArray = z.cells := by obtain ⟨_, _, _, _, _, _, hzz⟩ := hT.get hi; simp only at hzz; rw [← hzz, ← vcells_eq]
    rw [hz] at h1
    have h2 := mapM_places hT hl w
    have hps : (ps.map fun x => (x.1, a.eval x.2)).toList = vs := by simpa using evp_eval hR hv
    have hu := run_underlying' (hT.get hi) w
    have hm : (fs.mapM fun f => do pure (f.offset, ← sizeOf f.type) : Sem (Array (Nat × Nat))).run P w = .ok l.toArray w := by
     have e : fs = fs.toList.toArray := rfl
     rw [e, List.mapM_toArray, Sem.run_map, h2]; rfl
    simp only [execOp, Instr.build, Sem.run_bind, run_zeroValue' (hT.get hi), hu, Result.andThen_ok, hm, hps]
    rw [show (fun x => l.toArray[x]?) = (fun i => l.toArray[i]?) from rfl, h1]
    rfl
   ·cases hd
  ·cases h
 ·cases h
end Go.Sl
namespace Go.Sl
open Go Go.BigFrame
structure Sat (n : Nat) (D : List Deferred) (R : Regs) (Γ : Env) (H : List Blk) (a : Act) (w : World) : Prop where
 defers : a.defers = D
 size : a.tmps.size = n
 regs : Fits R a
 st : St Γ H w
theorem Sat.put {n D R Γ H a w} (h : Sat n D R Γ H a w) {d : Nat} (hd : Nat.blt d n = true) (v : Value) {Γ' H' w'} (hs : St Γ' H' w') :
  Sat n D ((d, v) :: R) Γ' H' (a.put (some d) v) w' where
 defers := h.defers
 size := by simp [Act.put, h.size]
 regs := by
  have hd' : d < n := by simpa [Nat.blt_eq] using hd
  intro i u hi
  simp only [rget] at hi
  cases e : Nat.beq d i with
  | true =>
   rw [e] at hi; injection hi with hi; subst hi
   have := Nat.eq_of_beq_eq_true e; subst this
   simp only [Act.put, Array.getElem?_setIfInBounds_self]
   rw [if_pos (by rw [h.size]; exact hd')]
  | false =>
   rw [e] at hi
   have hne : d ≠ i := fun e' => by subst e'; rw [Nat.beq_refl] at e; cases e
   simp only [Act.put]
   rw [Array.getElem?_setIfInBounds_ne hne]
   exact h.regs i u hi
 st := hs
theorem Sat.world {n D R Γ H a w} (h : Sat n D R Γ H a w) {Γ' H' w'} (hs : St Γ' H' w') : Sat n D R Γ' H' a w' := ⟨h.defers, h.size, h.regs, hs⟩
abbrev Post := Exit → Act → World → Prop
structure WL (P : Program) (ops : Array Oper) (Q : Post) (n : Nat) (D : List Deferred) (l : List Oper) (R : Regs) (Γ : Env) (H : List Blk) : Prop where
 go : ∀ a w, Sat n D R Γ H a w → wpList P ops Q l a w
structure WE (Q : Post) (e : Exit) (n : Nat) (D : List Deferred) (R : Regs) (Γ : Env) (H : List Blk) : Prop where
 go : ∀ a w, Sat n D R Γ H a w → Q e a w
structure WC (P : Program) (c : Code) (Q : Post) (n : Nat) (D : List Deferred) (R : Regs) (Γ : Env) (H : List Blk) : Prop where
 go : ∀ a w, Sat n D R Γ H a w → c.wp P Q a w
structure Spc (P : Program) (f : FuncId) (args : Array Value) (Γ : Env) (H : List Blk) (post : Value → Env → List Blk → Prop) : Prop where
 go : ∀ w, St Γ H w → Calls P f args w (fun e w' => ∃ v Γ' H', e = .returned v ∧ Γ.le Γ' ∧ St Γ' H' w' ∧ post v Γ' H')
theorem Spc.mono {P f args Γ H} {post post' : Value → Env → List Blk → Prop} (h : Spc P f args Γ H post) (hp : ∀ v Γ' H', Γ.le Γ' → post v Γ' H' → post' v Γ' H') : Spc P f args Γ H post' :=
 ⟨fun w hw => (h.go w hw).mono fun _ _ ⟨v, Γ', H', he, hl, hs, hq⟩ => ⟨v, Γ', H', he, hl, hs, hp v Γ' H' hl hq⟩⟩
theorem Spc.perm {P f args Γ H H2} {post : Value → Env → List Blk → Prop} (h : Spc P f args Γ H2 post) (p : H.Perm H2) : Spc P f args Γ H post :=
 ⟨fun w hw => h.go w (hw.perm p)⟩
section ops
variable {P : Program} {ops : Array Oper} {Q : Post} {n : Nat} {D : List Deferred} {R : Regs} {Γ : Env} {H : List Blk} {rest : List Oper}
variable {d : Nat} {ty : TypeId} {pos : String} {aft : Array Edge}
theorem WL.nil (h : WE Q .normal n D R Γ H) : WL P ops Q n D [] R Γ H := ⟨fun a w hs => wpList_nil (h.go a w hs)⟩
theorem WL.value {op : Op} (hd : Nat.blt d n = true)
  (h : ∀ a w, Sat n D R Γ H a w → ∃ v w', (execOp a.eval ⟨some d, op, ty, pos, aft, none⟩).run P w = .ok (.value v) w' ∧
   ∃ Γ' H', St Γ' H' w' ∧ WL P ops Q n D rest ((d, v) :: R) Γ' H') : WL P ops Q n D (⟨some d, op, ty, pos, aft, none⟩ :: rest) R Γ H := by
 refine ⟨fun a w hs => ?_⟩
 obtain ⟨v, w', hr, Γ', H', hst, k⟩ := h a w hs
 refine wpList_plain rfl fun K hK => ?_
 simp only [Oper.wp, hr, Oper.upon_value]
 exact hK _ _ (k.go _ _ (hs.put hd v hst))
theorem WL.skip_ {op : Op}
  (h : ∀ a w, Sat n D R Γ H a w → ∃ w', (execOp a.eval ⟨none, op, ty, pos, aft, none⟩).run P w = .ok .skip w' ∧
   ∃ Γ' H', St Γ' H' w' ∧ WL P ops Q n D rest R Γ' H') : WL P ops Q n D (⟨none, op, ty, pos, aft, none⟩ :: rest) R Γ H := by
 refine ⟨fun a w hs => ?_⟩
 obtain ⟨w', hr, Γ', H', hst, k⟩ := h a w hs
 refine wpList_plain rfl fun K hK => ?_
 simp only [Oper.wp, hr, Oper.upon_skip]
 exact hK _ _ (k.go _ _ (hs.world hst))
theorem WL.pure {T : Tab} (hT : TabOk P T) {op : Op} {v : Value} (hv : evalP T R op = some v) (hd : Nat.blt d n = true)
  (k : WL P ops Q n D rest ((d, v) :: R) Γ H) : WL P ops Q n D (⟨some d, op, ty, pos, aft, none⟩ :: rest) R Γ H :=
 WL.value hd fun a w hs => ⟨v, w, evalP_ok hT hs.regs hv _ _ _ _ _ _, Γ, H, hs.st, k⟩
theorem WL.yes {dst : Option Tmp} {op : Op} {j dj : Nat} {want : Bool} {oj : Oper} (hj : ops[j]? = some oj) (hdj : oj.dst = some dj) (hr : rget R dj = some (.bool want))
  (k : WL P ops Q n D (⟨dst, op, ty, pos, aft, none⟩ :: rest) R Γ H) : WL P ops Q n D (⟨dst, op, ty, pos, aft, some (j, want)⟩ :: rest) R Γ H := by
 refine ⟨fun a w hs => ?_⟩
 have hk := k.go a w hs
 have hy : Region.wanted ⟨dst, op, ty, pos, aft, some (j, want)⟩ (yielded ops a.tmps) = true := by
  have := hs.regs dj _ hr
  simp [Region.wanted, yielded, hj, hdj, this]
 unfold wpList at hk ⊢
 rw [if_pos (by rfl)] at hk
 rw [if_pos hy]
 exact hk
theorem WL.no {op : Op} {j dj : Nat} {want b : Bool} {oj : Oper} (hj : ops[j]? = some oj) (hdj : oj.dst = some dj) (hr : rget R dj = some (.bool b)) (hb : (b == want) = false)
  (hd : Nat.blt d n = true) (k : WL P ops Q n D rest ((d, undef) :: R) Γ H) : WL P ops Q n D (⟨some d, op, ty, pos, aft, some (j, want)⟩ :: rest) R Γ H := by
 refine ⟨fun a w hs => ?_⟩
 have hy : ¬ Region.wanted ⟨some d, op, ty, pos, aft, some (j, want)⟩ (yielded ops a.tmps) = true := by
  have := hs.regs dj _ hr
  simp [Region.wanted, yielded, hj, hdj, this]
  intro e; subst e; simp at hb
 unfold wpList
 rw [if_neg hy]
 exact k.go _ _ (hs.put hd undef hs.st)
theorem St.pick_cell {w} (h : St Γ H w) {b : Nat} {c : Array Value} {t : TypeId} {fz : Nat × Nat} {H' : List Blk} (p : Pick H b (.cells c t fz) H') {o : Nat} {v : Value} (e : lget c.toList o = some v) :
  w.cell? ⟨b, o, none⟩ = some v := by
 rw [h.cell p, ← e, lget_eq]; simp
theorem run_loadVar1 {P : Program} {T : Tab} (hT : TabOk P T) {t : TypeId} {i : TI} (hi : T.get t = some i) (ha : TypeDesc.agg i.desc = false) {w : World} {b o : Nat} {v : Value} (hc : w.cell? ⟨b, o, none⟩ = some v) :
  (loadVar t ⟨b, o, none⟩).run P w = .ok v w := by
 simp [loadVar, run_isAgg' (hT.get hi), ha, hc]
def cellsAt (c : Nat → Option Value) : Nat → List Value → Prop
 | _, [] => True
 | o, v :: l => c o = some v ∧ cellsAt c (o + 1) l
theorem cellsAt_get {c : Nat → Option Value} : ∀ {l : List Value} {o : Nat}, cellsAt c o l → ∀ j v, l[j]? = some v → c (o + j) = some v
 | [], _, _, j, v, h => by simp at h
 | x :: l, o, ⟨h1, h2⟩, 0, v, h => by simp at h; subst h; exact h1
 | x :: l, o, ⟨h1, h2⟩, j + 1, v, h => by
  have := cellsAt_get h2 j v (by simpa using h)
  rw [← this]; congr 1; omega
theorem cellsAt_mk {c : Nat → Option Value} : ∀ {l : List Value} {o : Nat}, (∀ j v, l[j]? = some v → c (o + j) = some v) → cellsAt c o l
 | [], _, _ => trivial
 | x :: l, o, h => ⟨h 0 x rfl, cellsAt_mk fun j v e => by have := h (j + 1) v (by simpa using e); rw [← this]; congr 1; omega⟩
theorem run_loadVarN {P : Program} {T : Tab} (hT : TabOk P T) {t : TypeId} {i : TI} (hi : T.get t = some i) (ha : TypeDesc.agg i.desc = true) {w : World} {b o : Nat} {l : List Value} (hl : llen l = i.size)
  (hc : cellsAt (fun k => w.cell? ⟨b, k, none⟩) o l) : (loadVar t ⟨b, o, none⟩).run P w = .ok (.agg l.toArray) w := by
 have := run_loadCells_list (P := P) w ⟨b, o, none⟩ l (fun j v e => by rw [Addr.add_lit]; exact cellsAt_get hc j v e)
 rw [llen_eq] at hl
 simp only [loadVar, Sem.run_bind, run_isAgg' (hT.get hi), ha, Result.andThen_ok, if_true, run_sizeOf' (hT.get hi), ← hl, this]
 rfl
theorem exec_load {a : Act} (hR : Fits R a) {x : Operand} {b o : Nat} (hx : ev R x = some (.pointer (some ⟨b, o, none⟩))) {t : TypeId} {w : World} {v : Value} (h : (loadVar t ⟨b, o, none⟩).run P w = .ok v w)
  (dst : Option Tmp) (g : Option (Nat × Bool)) : (execOp a.eval ⟨dst, .load t x, ty, pos, aft, g⟩).run P w = .ok (.value v) w := by
 simp only [execOp, ev_eval hR hx, Instr.loadAt, Instr.sureAddr, Sem.run_bind, Sem.run_pure, Result.andThen_ok, h]
theorem WL.ld {T : Tab} (hT : TabOk P T) {t : TypeId} {x : Operand} {b o : Nat} {i : TI} {c : Array Value} {tt : TypeId} {fz : Nat × Nat} {H' : List Blk} {v : Value}
  (hx : ev R x = some (.pointer (some ⟨b, o, none⟩))) (hi : T.get t = some i) (ha : TypeDesc.agg i.desc = false) (hp : Pick H b (.cells c tt fz) H') (hv : lget c.toList o = some v)
  (hd : Nat.blt d n = true) (k : WL P ops Q n D rest ((d, v) :: R) Γ H) : WL P ops Q n D (⟨some d, .load t x, ty, pos, aft, none⟩ :: rest) R Γ H :=
 WL.value hd fun _ w hs => ⟨v, w, exec_load hs.regs hx (run_loadVar1 hT hi ha (hs.st.pick_cell hp hv)) _ _, Γ, H, hs.st, k⟩
theorem WL.ldI {T : Tab} (hT : TabOk P T) {t : TypeId} {x : Operand} {b o : Nat} {i : TI} {v : Value}
  (hx : ev R x = some (.pointer (some ⟨b, o, none⟩))) (hi : T.get t = some i) (ha : TypeDesc.agg i.desc = false) (hv : Γ.cell b o = some v)
  (hd : Nat.blt d n = true) (k : WL P ops Q n D rest ((d, v) :: R) Γ H) : WL P ops Q n D (⟨some d, .load t x, ty, pos, aft, none⟩ :: rest) R Γ H :=
 WL.value hd fun _ w hs => ⟨v, w, exec_load hs.regs hx (run_loadVar1 hT hi ha (hs.st.icell hv)) _ _, Γ, H, hs.st, k⟩
inductive Cut : Nat → Nat → List Value → List Value → Prop where
 | nil {l} : Cut 0 0 l []
 | take {m x l l'} : Cut 0 m l l' → Cut 0 (m + 1) (x :: l) (x :: l')
 | drop {n m x l l'} : Cut n m l l' → Cut (n + 1) m (x :: l) l'
theorem Cut.len : ∀ {n m l l'}, Cut n m l l' → l'.length = m
 | _, _, _, _, .nil => rfl
 | _, _, _, _, .take h => by simp [h.len]
 | _, _, _, _, .drop h => h.len
theorem Cut.get : ∀ {n m l l'}, Cut n m l l' → ∀ j v, l'[j]? = some v → l[n + j]? = some v
 | _, _, _, _, .nil, j, v, h => by simp at h
 | _, _, _, _, .take (x := x) h, 0, v, e => by simpa using e
 | _, _, _, _, .take h, j + 1, v, e => by have := h.get j v (by simpa using e); simpa using this
 | _, _, _, _, .drop (n := n) h, j, v, e => by have := h.get j v e; rw [show n + 1 + j = (n + j) + 1 by omega]; simpa using this
theorem WL.ldA {T : Tab} (hT : TabOk P T) {t : TypeId} {x : Operand} {b o : Nat} {i : TI} {c : Array Value} {tt : TypeId} {fz : Nat × Nat} {H' : List Blk} {l : List Value}
  (hx : ev R x = some (.pointer (some ⟨b, o, none⟩))) (hi : T.get t = some i) (ha : TypeDesc.agg i.desc = true) (hp : Pick H b (.cells c tt fz) H') (hc : Cut o i.size c.toList l)
  (hd : Nat.blt d n = true) (k : WL P ops Q n D rest ((d, .agg l.toArray) :: R) Γ H) : WL P ops Q n D (⟨some d, .load t x, ty, pos, aft, none⟩ :: rest) R Γ H :=
 WL.value hd fun _ w hs => ⟨_, w, exec_load hs.regs hx (run_loadVarN hT hi ha (by rw [llen_eq, hc.len]) (cellsAt_mk fun j v e => by
  rw [hs.st.cell hp]; have := hc.get j v e; simpa using this)) _ _, Γ, H, hs.st, k⟩
theorem WL.ldAI {T : Tab} (hT : TabOk P T) {t : TypeId} {x : Operand} {b o : Nat} {i : TI} {l : List Value}
  (hx : ev R x = some (.pointer (some ⟨b, o, none⟩))) (hi : T.get t = some i) (ha : TypeDesc.agg i.desc = true) (hc : cellsAt (Γ.cell b) o l) (hl : llen l = i.size)
  (hd : Nat.blt d n = true) (k : WL P ops Q n D rest ((d, .agg l.toArray) :: R) Γ H) : WL P ops Q n D (⟨some d, .load t x, ty, pos, aft, none⟩ :: rest) R Γ H :=
 WL.value hd fun _ w hs => ⟨_, w, exec_load hs.regs hx (run_loadVarN hT hi ha hl (cellsAt_mk fun j v e => hs.st.icell (cellsAt_get hc j v e))) _ _, Γ, H, hs.st, k⟩
inductive Spl : Nat → List Value → List Value → List Value → Prop where
 | nil {l} : Spl 0 [] l l
 | put {v x vs l l'} : Spl 0 vs l l' → Spl 0 (v :: vs) (x :: l) (v :: l')
 | skip {n vs x l l'} : Spl n vs l l' → Spl (n + 1) vs (x :: l) (x :: l')
def setAll : Nat → List Value → List Value → List Value
 | _, [], l => l
 | k, v :: vs, l => setAll (k + 1) vs (l.set k v)
theorem setAll_cons : ∀ (vs : List Value) (k : Nat) (x : Value) (l : List Value), setAll (k + 1) vs (x :: l) = x :: setAll k vs l
 | [], _, _, _ => rfl
 | v :: vs, k, x, l => by simp only [setAll, List.set_cons_succ]; exact setAll_cons vs (k + 1) x _
theorem Spl.eq : ∀ {o : Nat} {vs l l' : List Value}, Spl o vs l l' → setAll o vs l = l' ∧ o + vs.length ≤ l.length
 | _, _, _, _, .nil => ⟨rfl, by simp⟩
 | _, _, _, _, .put (v := v) (x := x) h => by
  obtain ⟨h1, h2⟩ := h.eq
  refine ⟨?_, by simp; omega⟩
  simp only [setAll, List.set_cons_zero]
  rw [setAll_cons, h1]
 | _, _, _, _, .skip (n := n) (vs := vs) h => by
  obtain ⟨h1, h2⟩ := h.eq
  refine ⟨?_, by simp; omega⟩
  rw [setAll_cons, h1]
theorem run_storeCells {b : Nat} {t : TypeId} {fz : Nat × Nat} {o : Nat} : ∀ (vs : List Value) (i : Nat) (l : List Value) (w : World), thawed fz l.length → St Γ ((b, celF l t fz) :: H) w → o + i + vs.length ≤ l.length → (∀ v ∈ vs, v.oneCell' = true) →
  ∃ w', (storeCells ⟨b, o, none⟩ vs i).run P w = .ok () w' ∧ St Γ ((b, celF (setAll (o + i) vs l) t fz) :: H) w'
 | [], i, l, w, _, h, _, _ => ⟨w, rfl, h⟩
 | v :: vs, i, l, w, hz, h, hl, hv => by
  have h1 := h.own b _ (List.mem_cons_self ..)
  have hc : w.cell? ⟨b, o + i, none⟩ = l[o + i]? := by rw [cell_of_heap h1]; simp
  have hlt : o + i < l.length := by simp at hl; omega
  have hf := frozenF_of_heap h1 hz hlt
  have hs := h.store (Pick.here) (o + i) v
  obtain ⟨w', hr, hst⟩ := run_storeCells (o := o) vs (i + 1) (l.set (o + i) v) _ (by rw [List.length_set]; exact hz) hs (by simp at hl ⊢; omega) (fun u hu => hv u (List.mem_cons_of_mem _ hu))
  refine ⟨w', ?_, ?_⟩
  ·simp only [storeCells, Addr.add_lit, Sem.run_bind, run_store P w _ v .plain (hv v (List.mem_cons_self ..)), hc, List.getElem?_eq_getElem hlt, hf]
   simpa using hr
  ·simpa [setAll, Nat.add_assoc] using hst
def oneAll : List Value → Bool
 | [] => true
 | v :: l => v.oneCell' && oneAll l
theorem oneAll_mem : ∀ {l : List Value}, oneAll l = true → ∀ v ∈ l, v.oneCell' = true
 | x :: l, h, v, hv => by
  simp only [oneAll, Bool.and_eq_true] at h
  rcases List.mem_cons.1 hv with e | e
  ·subst e; exact h.1
  ·exact oneAll_mem h.2 v e
theorem WL.st {T : Tab} (hT : TabOk P T) {t : TypeId} {x y : Operand} {b o : Nat} {i : TI} {tt : TypeId} {l l' : List Value} {H' : List Blk} {v : Value}
  (hx : ev R x = some (.pointer (some ⟨b, o, none⟩))) (hy : ev R y = some v) (hi : T.get t = some i) (hp : Pick H b (cel l tt) H') (hs : Spl o (vcells v) l l') (hz : Nat.beq (llen (vcells v)) i.size = true) (hone : oneAll (vcells v) = true)
  (k : WL P ops Q n D rest R Γ ((b, cel l' tt) :: H')) : WL P ops Q n D (⟨none, .store t x y, ty, pos, aft, none⟩ :: rest) R Γ H :=
 WL.skip_ fun a w hw => by
  obtain ⟨e1, e2⟩ := hs.eq
  obtain ⟨w', hr, hst⟩ := run_storeCells (P := P) (b := b) (t := tt) (o := o) (vcells v) 0 l w (.inl (Nat.le_refl _)) (hw.st.perm hp.perm) (by omega) (oneAll_mem hone)
  refine ⟨w', ?_, Γ, _, ?_, k⟩
  ·have hlen : v.cells.size = i.size := by rw [← Array.length_toList, vcells_eq, ← llen_eq]; exact Nat.eq_of_beq_eq_true hz
   simp only [execOp, ev_eval hw.regs hx, ev_eval hw.regs hy, Instr.storeAt, Instr.sureAddr, storeVar, Sem.run_bind, Sem.run_pure, Result.andThen_ok, run_sizeOf' (hT.get hi), hlen, ne_eq, not_true_eq_false, if_false, vcells_eq]
   rw [hr]; rfl
  ·rw [Nat.add_zero, e1] at hst; exact hst
inductive Spine : List Value → List Value → Prop where
 | nil : Spine [] []
 | cons {x l l'} : Spine l l' → Spine (x :: l) (x :: l')
 | tail {l} : Spine l l
theorem Spine.eq : ∀ {l l'}, Spine l l' → l = l'
 | _, _, .nil => rfl
 | _, _, .cons h => by rw [h.eq]
 | _, _, .tail => rfl
theorem run_newVar (t : TypeId) (v : Value) (w : World) : (newVar t v).run P w = .ok ⟨w.heap.size, 0, none⟩ (w.alloc (cel (vcells v) t)) := by
 have : v.cells = (vcells v).toArray := by rw [← vcells_eq]
 simp [newVar, newRow, this]
theorem WL.alloc {T : Tab} (hT : TabOk P T) {t : TypeId} {l : List Value} (hz : T.zc t = some l) (hd : Nat.blt d n = true)
  (k : ∀ b, WL P ops Q n D rest ((d, .pointer (some ⟨b, 0, none⟩)) :: R) Γ ((b, cel l t) :: H)) : WL P ops Q n D (⟨some d, .alloc t, ty, pos, aft, none⟩ :: rest) R Γ H :=
 WL.value hd fun a w hw => by
  unfold Tab.zc at hz
  split at hz
  ·next d s b z c hi =>
   injection hz with hz
   have hzz : vcells z = l := by obtain ⟨_, _, _, _, _, _, e⟩ := hT.get hi; rw [e, hz]
   refine ⟨_, _, ?_, Γ, _, hw.st.alloc (cel l t), k w.heap.size⟩
   simp only [execOp, Instr.alloc, Sem.run_bind, run_zeroValue' (hT.get hi), Result.andThen_ok, run_newVar, hzz, Sem.run_pure]
  ·cases hz
theorem WL.box {t : TypeId} {x : Operand} {v : Value} {l : List Value} (hx : ev R x = some v) (hl : Spine (vcells v) l) (hd : Nat.blt d n = true)
  (k : ∀ b, WL P ops Q n D rest ((d, .pointer (some ⟨b, 0, none⟩)) :: R) Γ ((b, cel l t) :: H)) : WL P ops Q n D (⟨some d, .box t x, ty, pos, aft, none⟩ :: rest) R Γ H :=
 WL.value hd fun a w hw => by
  refine ⟨_, _, ?_, Γ, _, hw.st.alloc (cel l t), k w.heap.size⟩
  simp only [execOp, ev_eval hw.regs hx, Instr.box, Sem.run_bind, Result.andThen_ok, run_newVar, hl.eq, Sem.run_pure]
theorem WL.build {T : Tab} (hT : TabOk P T) {t : TypeId} {ps : Array (Nat × Operand)} {l l' : List Value} (hv : evalB T R t ps = some l) (hl : Spine l l') (hd : Nat.blt d n = true)
  (k : WL P ops Q n D rest ((d, .agg l'.toArray) :: R) Γ H) : WL P ops Q n D (⟨some d, .build t ps, ty, pos, aft, none⟩ :: rest) R Γ H :=
 WL.value hd fun a w hs => ⟨_, w, evalB_ok hT hs.regs (hl.eq ▸ hv) _ _ _ _ _ _, Γ, H, hs.st, k⟩
theorem WL.idx {T : Tab} (hT : TabOk P T) {t e : TypeId} {x ix : Operand} {b o len cap s : Nat} {kk : IntKind} {i : Int}
  (hx : ev R x = some (.slice (some ⟨b, o, none⟩) len cap)) (hi : ev R ix = some (.int kk i)) (ht : T.desc t = some (.slice e)) (hs : T.size e = some s) (h0 : 0 ≤ i) (h1 : i < len) (hd : Nat.blt d n = true)
  (k : WL P ops Q n D rest ((d, .pointer (some ⟨b, o + i.toNat * s, none⟩)) :: R) Γ H) : WL P ops Q n D (⟨some d, .indexAddr t x ix, ty, pos, aft, none⟩ :: rest) R Γ H :=
 WL.value hd fun a w hw => by
  refine ⟨_, w, ?_, Γ, H, hw.st, k⟩
  simp only [execOp, ev_eval hw.regs hx, ev_eval hw.regs hi, Instr.indexAt, asIntOf, Sem.run_bind, Sem.run_pure, Result.andThen_ok, run_underlying (Tab.desc_ok hT ht)]
  simp [h0, h1, run_sizeOf'' hT hs, Addr.add_lit]
def saddr (a : Option Addr) (cap lo s : Nat) : Option Addr := if cap = lo then a else a.map (·.add (lo * s))
theorem run_slice {P : Program} {T : Tab} (hT : TabOk P T) {t e : TypeId} {a0 : Option Addr} {len cap s : Nat} (ht : T.desc t = some (.slice e)) (hs : T.size e = some s) {lo hi : Option Value} {l h : Nat}
  (hlo : match lo with | some y => ∃ kk li, y = .int kk li ∧ 0 ≤ li ∧ li.toNat = l | none => l = 0) (hhi : match hi with | some y => ∃ kk li, y = .int kk li ∧ 0 ≤ li ∧ li.toNat = h | none => h = len)
  (h1 : l ≤ h) (h2 : h ≤ cap) (w : World) : (Instr.sliceAt t (.slice a0 len cap) lo hi none).run P w = .ok (.slice (saddr a0 cap l s) (h - l) (cap - l)) w := by
 have hu := run_underlying (Tab.desc_ok hT ht) w
 have key : (Instr.slice t (.slice a0 len cap) lo hi none).run P w = .ok (.slice (saddr a0 cap l s) (h - l) (cap - l)) w := by
  cases lo with
  | none =>
   simp only at hlo; subst hlo
   cases hi with
   | none => simp only at hhi; subst hhi; simp [Instr.slice, hu, Instr.sliceBounds, run_sizeOf'' hT hs, saddr]
   | some y =>
    obtain ⟨kk, li, rfl, h0, rfl⟩ := hhi
    have h3 : li ≤ cap := by omega
    simp [Instr.slice, hu, Instr.sliceBounds, Instr.sliceBound, asIntOf, run_sizeOf'' hT hs, h0, h3, saddr]
  | some z =>
   obtain ⟨kk', li', rfl, h0', rfl⟩ := hlo
   cases hi with
   | none =>
    simp only at hhi; subst hhi
    have h3 : li' ≤ h := by omega
    simp [Instr.slice, hu, Instr.sliceBounds, Instr.sliceBound, asIntOf, run_sizeOf'' hT hs, h0', h3, saddr]
   | some y =>
    obtain ⟨kk, li, rfl, h0, rfl⟩ := hhi
    have h3 : li ≤ cap := by omega
    have h4 : li' ≤ li := by omega
    have h5 : max li 0 = li := by omega
    simp [Instr.slice, hu, Instr.sliceBounds, Instr.sliceBound, asIntOf, run_sizeOf'' hT hs, h0, h3, h0', h4, h5, saddr]
 simp only [Instr.sliceAt, Sem.run_bind, hu, Result.andThen_ok]
 exact key
theorem WL.slLo {T : Tab} (hT : TabOk P T) {t e : TypeId} {x y : Operand} {a0 : Option Addr} {len cap s : Nat} {kk : IntKind} {li : Int}
  (hx : ev R x = some (.slice a0 len cap)) (ht : T.desc t = some (.slice e)) (hs : T.size e = some s) (hy : ev R y = some (.int kk li)) (h0 : 0 ≤ li) (h1 : li ≤ len) (h2 : len ≤ cap) (hd : Nat.blt d n = true)
  (k : WL P ops Q n D rest ((d, .slice (saddr a0 cap li.toNat s) (len - li.toNat) (cap - li.toNat)) :: R) Γ H) : WL P ops Q n D (⟨some d, .slice t x (some y) none none, ty, pos, aft, none⟩ :: rest) R Γ H :=
 WL.value hd fun a w hw => by
  refine ⟨_, w, ?_, Γ, H, hw.st, k⟩
  simp only [execOp, ev_eval hw.regs hx, Option.map_some, Option.map_none, ev_eval hw.regs hy, Sem.run_bind]
  rw [run_slice hT ht hs (lo := some (.int kk li)) (hi := none) (l := li.toNat) (h := len) ⟨kk, li, rfl, h0, rfl⟩ rfl (by omega) h2 w]; rfl
theorem WL.slHi {T : Tab} (hT : TabOk P T) {t e : TypeId} {x y : Operand} {a0 : Option Addr} {len cap s : Nat} {kk : IntKind} {li : Int}
  (hx : ev R x = some (.slice a0 len cap)) (ht : T.desc t = some (.slice e)) (hs : T.size e = some s) (hy : ev R y = some (.int kk li)) (h0 : 0 ≤ li) (h1 : li ≤ cap) (hd : Nat.blt d n = true)
  (k : WL P ops Q n D rest ((d, .slice a0 li.toNat cap) :: R) Γ H) : WL P ops Q n D (⟨some d, .slice t x none (some y) none, ty, pos, aft, none⟩ :: rest) R Γ H :=
 WL.value hd fun a w hw => by
  refine ⟨_, w, ?_, Γ, H, hw.st, k⟩
  simp only [execOp, ev_eval hw.regs hx, Option.map_some, Option.map_none, ev_eval hw.regs hy, Sem.run_bind]
  rw [run_slice hT ht hs (lo := none) (hi := some (.int kk li)) (l := 0) (h := li.toNat) rfl ⟨kk, li, rfl, h0, rfl⟩ (by omega) (by omega) w]
  have : saddr a0 cap 0 s = a0 := by unfold saddr; split <;> first | rfl | (cases a0 <;> simp [Addr.add])
  simp [this]
theorem WL.slLH {T : Tab} (hT : TabOk P T) {t e : TypeId} {x y z : Operand} {a0 : Option Addr} {len cap s : Nat} {kk kk' : IntKind} {li hi : Int}
  (hx : ev R x = some (.slice a0 len cap)) (ht : T.desc t = some (.slice e)) (hs : T.size e = some s) (hy : ev R y = some (.int kk li)) (hz : ev R z = some (.int kk' hi)) (h0 : 0 ≤ li) (h1 : li ≤ hi) (h2 : hi ≤ cap) (hd : Nat.blt d n = true)
  (k : WL P ops Q n D rest ((d, .slice (saddr a0 cap li.toNat s) (hi.toNat - li.toNat) (cap - li.toNat)) :: R) Γ H) : WL P ops Q n D (⟨some d, .slice t x (some y) (some z) none, ty, pos, aft, none⟩ :: rest) R Γ H :=
 WL.value hd fun a w hw => by
  refine ⟨_, w, ?_, Γ, H, hw.st, k⟩
  simp only [execOp, ev_eval hw.regs hx, Option.map_some, Option.map_none, ev_eval hw.regs hy, ev_eval hw.regs hz, Sem.run_bind]
  rw [run_slice hT ht hs (lo := some (.int kk li)) (hi := some (.int kk' hi)) (l := li.toNat) (h := hi.toNat) ⟨kk, li, rfl, h0, rfl⟩ ⟨kk', hi, rfl, by omega, rfl⟩ (by omega) (by omega) w]; rfl
theorem WL.call_ {f : FuncId} {vs : List Value} {op : Op} {post : Value → Env → List Blk → Prop}
  (hr : ∀ a, Fits R a → ∀ w, (execOp a.eval ⟨some d, op, ty, pos, aft, none⟩).run P w = .ok (.enter f vs.toArray) w) (hd : Nat.blt d n = true)
  (hc : Spc P f vs.toArray Γ H post) (k : ∀ v Γ' H', Γ.le Γ' → post v Γ' H' → WL P ops Q n D rest ((d, v) :: R) Γ' H') : WL P ops Q n D (⟨some d, op, ty, pos, aft, none⟩ :: rest) R Γ H := by
 refine ⟨fun a w hs => ?_⟩
 refine wpList_plain rfl fun K hK => ?_
 simp only [Oper.wp, hr a hs.regs w, Oper.upon_enter]
 refine (hc.go w hs.st).mono ?_
 rintro e w' ⟨v, Γ', H', rfl, hle, hst, hp⟩
 exact hK _ _ ((k v Γ' H' hle hp).go _ _ (hs.put hd v hst))
theorem WL.call {f : FuncId} {x : Operand} {xs : Array Operand} {ats : Array TypeId} {fs cs : Array Value} {us : List Value} {post : Value → Env → List Blk → Prop}
  (hx : ev R x = some (.func (.func f) fs cs)) (hcall : ∀ args w, (callFunc f args).run P w = .ok (.enter f args) w) (hxs : evs R xs.toList = some us) (hd : Nat.blt d n = true)
  (hc : Spc P f (fs.toList ++ us ++ cs.toList).toArray Γ H post) (k : ∀ v Γ' H', Γ.le Γ' → post v Γ' H' → WL P ops Q n D rest ((d, v) :: R) Γ' H') :
  WL P ops Q n D (⟨some d, .call { callee := .value x, args := xs, argTypes := ats }, ty, pos, aft, none⟩ :: rest) R Γ H :=
 WL.call_ (f := f) (vs := fs.toList ++ us ++ cs.toList) (fun a hR w => by
  simp only [execOp, resolve, ev_eval hR hx, Deferred.ofValue, evs_map hR hxs, Sem.run_bind, Sem.run_pure, Result.andThen_ok, invoke]
  rw [hcall]
  congr 2
  apply Array.ext'; simp) hd hc k
theorem WL.invoke {f : FuncId} {x : Operand} {name : String} {xs : Array Operand} {ats : Array TypeId} {t : TypeId} {u rv : Value} {us : List Value} {post : Value → Env → List Blk → Prop}
  (hx : ev R x = some (.iface t u)) (hm : ∀ w, (method (P.types.size + Made.depth) t u name).run P w = .ok (f, rv) w) (hcall : ∀ args w, (callFunc f args).run P w = .ok (.enter f args) w)
  (hxs : evs R xs.toList = some us) (hd : Nat.blt d n = true)
  (hc : Spc P f (rv :: us).toArray Γ H post) (k : ∀ v Γ' H', Γ.le Γ' → post v Γ' H' → WL P ops Q n D rest ((d, v) :: R) Γ' H') :
  WL P ops Q n D (⟨some d, .call { callee := .invoke x name, args := xs, argTypes := ats }, ty, pos, aft, none⟩ :: rest) R Γ H :=
 WL.call_ (f := f) (vs := rv :: us) (fun a hR w => by
  simp only [execOp, resolve, ev_eval hR hx, evs_map hR hxs, Sem.run_bind, Sem.run_pure, Result.andThen_ok, Go.invoke]
  simp only [List.append_toArray, List.cons_append, List.nil_append, List.getElem?_toArray, List.getElem?_cons_zero, callMethod, Sem.run_bind, run_program, Result.andThen_ok]
  rw [hm]
  simp only [Result.andThen_ok]
  rw [hcall]
  congr 2
  simp) hd hc k
end ops
section code
variable {P : Program} {Q : Post} {n : Nat} {D : List Deferred} {R : Regs} {Γ : Env} {H : List Blk}
theorem WC.seq {x y : Code} (h : WC P x (Exit.then (fun a w => y.wp P Q a w) Q) n D R Γ H) : WC P (.seq x y) Q n D R Γ H := ⟨fun a w hs => wp_seq (h.go a w hs)⟩
theorem WE.then_ {y : Code} (h : WC P y Q n D R Γ H) : WE (Exit.then (fun a w => y.wp P Q a w) Q) .normal n D R Γ H := ⟨fun a w hs => h.go a w hs⟩
def isN : Exit → Bool
 | .normal => true
 | _ => false
theorem WE.thenX {K : Act → World → Prop} {e : Exit} (he : isN e = false) (h : WE Q e n D R Γ H) : WE (Exit.then K Q) e n D R Γ H := ⟨fun a w hs => by
 have := h.go a w hs
 cases e <;> first | exact this | cases he⟩
theorem WC.region {id : Nat} {l : List Oper} (h : WL P l.toArray Q n D l R Γ H) : WC P (.region id l.toArray false) Q n D R Γ H := ⟨fun a w hs => wp_region_lit (h.go a w hs)⟩
theorem WC.block {id : Nat} {c : Code} (h : WC P c (Exit.inBlock id Q) n D R Γ H) : WC P (.block id c) Q n D R Γ H := ⟨fun a w hs => wp_block (h.go a w hs)⟩
theorem WE.block_n {id : Nat} (h : WE Q .normal n D R Γ H) : WE (Exit.inBlock id Q) .normal n D R Γ H := ⟨fun a w hs => h.go a w hs⟩
theorem WE.block_x {id : Nat} (h : WE Q .normal n D R Γ H) : WE (Exit.inBlock id Q) (.exit id) n D R Γ H := ⟨fun a w hs => by simp only [Exit.inBlock, if_true]; exact h.go a w hs⟩
theorem WE.block_y {id id' : Nat} (hne : Nat.beq id' id = false) (h : WE Q (.exit id') n D R Γ H) : WE (Exit.inBlock id Q) (.exit id') n D R Γ H   := ⟨fun a w hs => by
 have : id' ≠ id := fun e => by subst e; rw [Nat.beq_refl] at hne; cases hne
 simp only [Exit.inBlock, this, if_false]; exact h.go a w hs⟩
theorem WE.block_r {id : Nat} (h : WE Q .ret n D R Γ H) : WE (Exit.inBlock id Q) .ret n D R Γ H := ⟨fun a w hs => h.go a w hs⟩
theorem WC.ret (h : WE Q .ret n D R Γ H) : WC P .ret Q n D R Γ H := ⟨fun a w hs => wp_ret (h.go a w hs)⟩
theorem WC.skip (h : WE Q .normal n D R Γ H) : WC P .skip Q n D R Γ H := ⟨fun a w hs => wp_skip (h.go a w hs)⟩
theorem WC.exit {id : Nat} (h : WE Q (.exit id) n D R Γ H) : WC P (.exit id) Q n D R Γ H := ⟨fun a w hs => wp_exit (h.go a w hs)⟩
theorem WC.condT {c : Operand} {x y : Code} {b : Bool} (hc : ev R c = some (.bool b)) (hb : b = true) (h : WC P x Q n D R Γ H) : WC P (.cond c x y) Q n D R Γ H :=
 ⟨fun a w hs => wp_cond_true (by rw [ev_eval hs.regs hc, hb]) (h.go a w hs)⟩
theorem WC.condF {c : Operand} {x y : Code} {b : Bool} (hc : ev R c = some (.bool b)) (hb : b = false) (h : WC P y Q n D R Γ H) : WC P (.cond c x y) Q n D R Γ H :=
 ⟨fun a w hs => wp_cond_false (by rw [ev_eval hs.regs hc, hb]) (h.go a w hs)⟩
theorem WC.condS {c : Operand} {x y : Code} {b : Bool} (hc : ev R c = some (.bool b)) (h1 : b = true → WC P x Q n D R Γ H) (h2 : b = false → WC P y Q n D R Γ H) : WC P (.cond c x y) Q n D R Γ H :=
 ⟨fun a w hs => wp_cond_split (ev_eval hs.regs hc) (fun e => (h1 e).go a w hs) (fun e => (h2 e).go a w hs)⟩
theorem WC.freeze {c : Code} {b : Nat} {o : Obj} {H' : List Blk} (hp : Pick H b o H') (k : Γ.le (Γ.add b o) → WC P c Q n D R (Γ.add b o) H') : WC P c Q n D R Γ H :=
 ⟨fun a w hs => by
  have h1 := hs.st.perm hp.perm
  exact (k h1.le_add).go a w (hs.world h1.freeze)⟩
theorem WL.freeze {ops : Array Oper} {l : List Oper} {b : Nat} {o : Obj} {H' : List Blk} (hp : Pick H b o H') (k : Γ.le (Γ.add b o) → WL P ops Q n D l R (Γ.add b o) H') : WL P ops Q n D l R Γ H :=
 ⟨fun a w hs => by
  have h1 := hs.st.perm hp.perm
  exact (k h1.le_add).go a w (hs.world h1.freeze)⟩
def subR (R : Regs) : Regs → Prop
 | [] => True
 | (i, v) :: r => rget R i = some v ∧ subR R r
theorem subR_get {R : Regs} : ∀ {r : Regs}, subR R r → ∀ i v, rget r i = some v → rget R i = some v
 | [], _, i, v, h => by cases h
 | (j, u) :: r, ⟨h1, h2⟩, i, v, h => by
  simp only [rget] at h
  cases e : Nat.beq j i with
  | true => rw [e] at h; injection h with h; subst h; have := Nat.eq_of_beq_eq_true e; subst this; exact h1
  | false => rw [e] at h; exact subR_get h2 i v h
theorem WC.loop {α : Type} {c : Code} (Rf : α → Regs) (Γf : α → Env) (Hf : α → List Blk) (I : α → Prop) (μ : α → Nat) (x0 : α) (h0 : I x0)
  (hs0 : ∀ a w, Sat n D R Γ H a w → Sat n D (Rf x0) (Γf x0) (Hf x0) a w)
  (round : ∀ x, I x → WC P c (Exit.then (fun a w => ∃ y, I y ∧ μ y < μ x ∧ Sat n D (Rf y) (Γf y) (Hf y) a w) Q) n D (Rf x) (Γf x) (Hf x)) : WC P (.loop c) Q n D R Γ H := by
 refine ⟨fun a0 w0 hst0 b k cs => ?_⟩
 have key : ∀ m x, μ x = m → I x → ∀ a w, Sat n D (Rf x) (Γf x) (Hf x) a w →
   ∃ e a' w', Q e a' w' ∧ Arrives P (lone (b.at a (.code c :: .inLoop c :: k)) cs w) b k cs e a' w' := by
  intro m
  induction m using Nat.strongRecOn with
  | _ m ih =>
   intro x hm hI a w hs
   obtain ⟨e, a₁, w₁, hq, harr⟩ := (round x hI).go a w hs b (.inLoop c :: k) cs
   cases e with
   | normal =>
    obtain ⟨y, hy, hlt, hsy⟩ := hq
    obtain ⟨e2, a2, w2, hq2, harr2⟩ := ih (μ y) (hm ▸ hlt) y rfl hy a₁ w₁ hsy
    exact ⟨e2, a2, w2, hq2, .of_steps (Steps.trans harr (.one step_inLoop)) harr2⟩
   | exit id => exact ⟨_, a₁, w₁, hq, .pass (x := .inLoop c) rfl (fun _ _ => .inl (by simp)) harr⟩
   | goto l => exact ⟨_, a₁, w₁, hq, .pass (x := .inLoop c) rfl (fun _ _ => .inl (by simp)) harr⟩
   | ret => exact ⟨_, a₁, w₁, hq, .pass (x := .inLoop c) rfl (fun _ _ => .inl (by simp)) harr⟩
   | panic ch => exact ⟨_, a₁, w₁, hq, .pass (x := .inLoop c) rfl (fun _ _ => .inl (by simp)) harr⟩
   | outgrown => exact ⟨_, a₁, w₁, hq, .pass (x := .inLoop c) rfl (fun _ _ => .inl (by simp)) harr⟩
 obtain ⟨e, a', w', hq, harr⟩ := key _ x0 rfl h0 a0 w0 (hs0 a0 w0 hst0)
 exact ⟨e, a', w', hq, .of_steps (.one step_loop) harr⟩
def bodyQ (P : Program) (fn : Func) (Γ0 : Env) (post : Value → Env → List Blk → Prop) : Post :=
 bodyPost P fn (fun e w' => ∃ v Γ' H', e = .returned v ∧ Γ0.le Γ' ∧ St Γ' H' w' ∧ post v Γ' H')
def zipR : Nat → List Value → Regs
 | _, [] => []
 | i, v :: l => (i, v) :: zipR (i + 1) l
theorem zipR_get : ∀ (l : List Value) (i : Nat), ∀ j v, rget (zipR i l) j = some v → i ≤ j ∧ l[j - i]? = some v
 | [], _, _, _, h => by cases h
 | u :: l, i, j, v, h => by
  simp only [zipR, rget] at h
  cases e : Nat.beq i j with
  | true => rw [e] at h; injection h with h; subst h; have := Nat.eq_of_beq_eq_true e; subst this; simp
  | false =>
   rw [e] at h
   obtain ⟨h1, h2⟩ := zipR_get l (i + 1) j v h
   refine ⟨by omega, ?_⟩
   rw [show j - i = (j - (i + 1)) + 1 by omega]
   simpa using h2
theorem Spc.of_body {f : FuncId} {fn : Func} {c : Code} {vs : List Value} {post : Value → Env → List Blk → Prop} {m : Nat}
  (hf : P.funcs[f]? = some fn) (hb : fn.body = some c) (hn : fn.ntmps = m) (hm : Nat.ble (llen vs) m = true)
  (h : WC P c (bodyQ P fn Γ post) m [] (zipR 0 vs) Γ H) : Spc P f vs.toArray Γ H post := ⟨fun w hw => by
 refine calls_of_wp hf hb ?_
 rw [llen_eq] at hm
 have hm' : vs.length ≤ m := Nat.le_of_ble_eq_true hm
 refine h.go _ _ ⟨rfl, by simp [hn]; omega, ?_, hw⟩
 intro i v hi
 obtain ⟨_, h2⟩ := zipR_get vs 0 i v hi
 have h2' : vs[i]? = some v := by simpa using h2
 have hlt : i < vs.length := by
  rcases Nat.lt_or_ge i vs.length with h | h
  ·exact h
  ·simp [List.getElem?_eq_none h] at h2'
 show (vs.toArray ++ Array.replicate (fn.ntmps - vs.toArray.size) undef)[i]? = some v
 rw [Array.getElem?_append_left (by simpa using hlt)]
 simpa using h2'⟩
theorem Spc.body1 {f : FuncId} {fn : Func} {c : Code} {v0 : Value} {post : Value → Env → List Blk → Prop} {m : Nat}
  (hf : P.funcs[f]? = some fn) (hb : fn.body = some c) (hn : fn.ntmps = m) (hm : Nat.ble 1 m = true)
  (h : WC P c (bodyQ P fn Γ post) m [] [(0, v0)] Γ H) : Spc P f #[v0] Γ H post := Spc.of_body (vs := [v0]) hf hb hn hm h
theorem Spc.body2 {f : FuncId} {fn : Func} {c : Code} {v0 v1 : Value} {post : Value → Env → List Blk → Prop} {m : Nat}
  (hf : P.funcs[f]? = some fn) (hb : fn.body = some c) (hn : fn.ntmps = m) (hm : Nat.ble 2 m = true)
  (h : WC P c (bodyQ P fn Γ post) m [] [(0, v0), (1, v1)] Γ H) : Spc P f #[v0, v1] Γ H post := Spc.of_body (vs := [v0, v1]) hf hb hn hm h
theorem Spc.body3 {f : FuncId} {fn : Func} {c : Code} {v0 v1 v2 : Value} {post : Value → Env → List Blk → Prop} {m : Nat}
  (hf : P.funcs[f]? = some fn) (hb : fn.body = some c) (hn : fn.ntmps = m) (hm : Nat.ble 3 m = true)
  (h : WC P c (bodyQ P fn Γ post) m [] [(0, v0), (1, v1), (2, v2)] Γ H) : Spc P f #[v0, v1, v2] Γ H post := Spc.of_body (vs := [v0, v1, v2]) hf hb hn hm h
theorem Spc.body4 {f : FuncId} {fn : Func} {c : Code} {v0 v1 v2 v3 : Value} {post : Value → Env → List Blk → Prop} {m : Nat}
  (hf : P.funcs[f]? = some fn) (hb : fn.body = some c) (hn : fn.ntmps = m) (hm : Nat.ble 4 m = true)
  (h : WC P c (bodyQ P fn Γ post) m [] [(0, v0), (1, v1), (2, v2), (3, v3)] Γ H) : Spc P f #[v0, v1, v2, v3] Γ H post := Spc.of_body (vs := [v0, v1, v2, v3]) hf hb hn hm h
theorem Spc.body5 {f : FuncId} {fn : Func} {c : Code} {v0 v1 v2 v3 v4 : Value} {post : Value → Env → List Blk → Prop} {m : Nat}
  (hf : P.funcs[f]? = some fn) (hb : fn.body = some c) (hn : fn.ntmps = m) (hm : Nat.ble 5 m = true)
  (h : WC P c (bodyQ P fn Γ post) m [] [(0, v0), (1, v1), (2, v2), (3, v3), (4, v4)] Γ H) : Spc P f #[v0, v1, v2, v3, v4] Γ H post := Spc.of_body (vs := [v0, v1, v2, v3, v4]) hf hb hn hm h
theorem Spc.body6 {f : FuncId} {fn : Func} {c : Code} {v0 v1 v2 v3 v4 v5 : Value} {post : Value → Env → List Blk → Prop} {m : Nat}
  (hf : P.funcs[f]? = some fn) (hb : fn.body = some c) (hn : fn.ntmps = m) (hm : Nat.ble 6 m = true)
  (h : WC P c (bodyQ P fn Γ post) m [] [(0, v0), (1, v1), (2, v2), (3, v3), (4, v4), (5, v5)] Γ H) : Spc P f #[v0, v1, v2, v3, v4, v5] Γ H post := Spc.of_body (vs := [v0, v1, v2, v3, v4, v5]) hf hb hn hm h
theorem Spc.body7 {f : FuncId} {fn : Func} {c : Code} {v0 v1 v2 v3 v4 v5 v6 : Value} {post : Value → Env → List Blk → Prop} {m : Nat}
  (hf : P.funcs[f]? = some fn) (hb : fn.body = some c) (hn : fn.ntmps = m) (hm : Nat.ble 7 m = true)
  (h : WC P c (bodyQ P fn Γ post) m [] [(0, v0), (1, v1), (2, v2), (3, v3), (4, v4), (5, v5), (6, v6)] Γ H) : Spc P f #[v0, v1, v2, v3, v4, v5, v6] Γ H post := Spc.of_body (vs := [v0, v1, v2, v3, v4, v5, v6]) hf hb hn hm h
theorem Spc.body8 {f : FuncId} {fn : Func} {c : Code} {v0 v1 v2 v3 v4 v5 v6 v7 : Value} {post : Value → Env → List Blk → Prop} {m : Nat}
  (hf : P.funcs[f]? = some fn) (hb : fn.body = some c) (hn : fn.ntmps = m) (hm : Nat.ble 8 m = true)
  (h : WC P c (bodyQ P fn Γ post) m [] [(0, v0), (1, v1), (2, v2), (3, v3), (4, v4), (5, v5), (6, v6), (7, v7)] Γ H) : Spc P f #[v0, v1, v2, v3, v4, v5, v6, v7] Γ H post := Spc.of_body (vs := [v0, v1, v2, v3, v4, v5, v6, v7]) hf hb hn hm h
theorem end_1 {fn : Func} {Γ0 : Env} {post : Value → Env → List Blk → Prop} {t : Nat} {v : Value} (hr : fn.results = #[.tmp t]) (hv : rget R t = some v) (hle : Γ0.le Γ) (hp : post v Γ H) :
  WE (bodyQ P fn Γ0 post) .ret n [] R Γ H := ⟨fun a w hs => by
 refine bodyPost_ret (v := v) ?_ hs.defers ⟨v, Γ, H, rfl, hle, hs.st, hp⟩
 rw [results_tmp hr]
 have := hs.regs t v hv
 simp [Array.getD_eq_getD_getElem?, this]⟩
theorem end_2 {fn : Func} {Γ0 : Env} {post : Value → Env → List Blk → Prop} {t u : Nat} {v v' : Value} (hr : fn.results = #[.tmp t, .tmp u]) (hv : rget R t = some v) (hv' : rget R u = some v') (hle : Γ0.le Γ) (hp : post (.tuple #[v, v']) Γ H) :
  WE (bodyQ P fn Γ0 post) .ret n [] R Γ H := ⟨fun a w hs => by
 refine bodyPost_ret (v := .tuple #[v, v']) ?_ hs.defers ⟨_, Γ, H, rfl, hle, hs.st, hp⟩
 rw [results_tmp2 hr]
 have h1 := hs.regs t v hv
 have h2 := hs.regs u v' hv'
 simp [Array.getD_eq_getD_getElem?, h1, h2]⟩
theorem end_3 {fn : Func} {Γ0 : Env} {post : Value → Env → List Blk → Prop} {t u x : Nat} {v v' v'' : Value} (hr : fn.results = #[.tmp t, .tmp u, .tmp x]) (hv : rget R t = some v) (hv' : rget R u = some v') (hv'' : rget R x = some v'') (hle : Γ0.le Γ) (hp : post (.tuple #[v, v', v'']) Γ H) :
  WE (bodyQ P fn Γ0 post) .ret n [] R Γ H := ⟨fun a w hs => by
 refine bodyPost_ret (v := .tuple #[v, v', v'']) ?_ hs.defers ⟨_, Γ, H, rfl, hle, hs.st, hp⟩
 have h1 := hs.regs t v hv
 have h2 := hs.regs u v' hv'
 have h3 := hs.regs x v'' hv''
 simp [results, hr, Array.getD_eq_getD_getElem?, h1, h2, h3]⟩
theorem end_0 {fn : Func} {Γ0 : Env} {post : Value → Env → List Blk → Prop} (hr : fn.results = #[]) (hle : Γ0.le Γ) (hp : post (.tuple #[]) Γ H) :
  WE (bodyQ P fn Γ0 post) .normal n [] R Γ H := ⟨fun a w hs => by
 refine bodyPost_end (v := .tuple #[]) ?_ hs.defers ⟨_, Γ, H, rfl, hle, hs.st, hp⟩
 rw [results_none hr]⟩
theorem end_0r {fn : Func} {Γ0 : Env} {post : Value → Env → List Blk → Prop} (hr : fn.results = #[]) (hle : Γ0.le Γ) (hp : post (.tuple #[]) Γ H) :
  WE (bodyQ P fn Γ0 post) .ret n [] R Γ H := ⟨fun a w hs => by
 refine bodyPost_ret (v := .tuple #[]) ?_ hs.defers ⟨_, Γ, H, rfl, hle, hs.st, hp⟩
 rw [results_none hr]⟩
end code
end Go.Sl
namespace Go.Sl
open Go Go.BigFrame
structure RO (Γs : Env) (Hs : List Blk) (w : World) : Prop where
 imm : ∀ b o, Γs.imm b = some o → w.heap[b]? = some o
 own : ∀ b o, (b, o) ∈ Hs → w.heap[b]? = some o
def subH (H : List Blk) : List Blk → Prop
 | [] => True
 | (b, o) :: r => (∃ H', Pick H b o H') ∧ subH H r
theorem subH_mem {H : List Blk} : ∀ {r : List Blk}, subH H r → ∀ x ∈ r, x ∈ H
 | [], _, x, h => by cases h
 | (b, o) :: r, ⟨⟨H', h1⟩, h2⟩, x, h => by
  rcases List.mem_cons.1 h with e | e
  ·subst e; exact h1.perm.mem_iff.2 (List.mem_cons_self ..)
  ·exact subH_mem h2 x e
theorem RO.of_st {Γs Γ : Env} {Hs H : List Blk} (hle : Γs.le Γ) (hH : subH H Hs) {w} (h : St Γ H w) : RO Γs Hs w :=
 ⟨fun b o e => h.imm b o (hle.imm b o e), fun b o e => h.own b o (subH_mem hH _ e)⟩
section orders
variable {P : Program} {ops : Array Oper} {Q : Post} {S : World → Prop} {L : Nat}
def anyL (P : Program) (ops : Array Oper) (Q : Post) (S : World → Prop) (L : Nat) : Nat → Array Bool → Act → World → Prop
 | 0, listed, a, w => Region.ready .any ops listed = [] ∧ Q .normal a w
 | fuel + 1, listed, a, w =>
  (Region.ready .any ops listed = [] → Q .normal a w) ∧
  ∀ i ∈ Region.ready .any ops listed, wpOp P ops Q i (fun a' w' => (i ≠ L → S w') ∧ anyL P ops Q S L fuel (listed.setIfInBounds i true) a' w') a w
theorem anyL_any : ∀ (fuel : Nat) (listed : Array Bool) (a : Act) (w : World), anyL P ops Q S L fuel listed a w → wpAny P .any ops Q fuel listed a w
 | 0, _, _, _, h => h
 | f + 1, _, _, _, ⟨h1, h2⟩ => ⟨h1, fun i hi => wpOp_mono (fun a' w' h => anyL_any f _ a' w' h.2) (h2 i hi)⟩
def waits (ops : Array Oper) (L i : Nat) : Bool :=
 match ops[L]? with
 | none => true
 | some o => i != L && o.after.any fun e => Region.binds .any e && e.on == i
theorem anyL_first {i : Nat} {oi : Oper} {v : Value} (hi : ops[i]? = some oi) (hs : Region.noSelect ops = true) (hw : waits ops L i = true) (hQ : ∀ c a w, ¬ Q (.panic c) a w) :
  ∀ (fuel : Nat) (listed : Array Bool) (a : Act) (w : World),
   (∀ j oj, ops[j]? = some oj → j ≠ i → listed.getD j true = false → (∀ e ∈ oj.after, Region.binds .any e = true → e.on ≠ i) → oi.apart ops oj = true) →
   i ∈ Region.ready .any ops listed → YieldsIf P ops S oi v a → S w →
   anyL P ops Q S L fuel (listed.setIfInBounds i true) (a.put oi.dst v) w → anyL P ops Q S L (fuel + 1) listed a w := by
 have hsel := Region.noSelect_spec hs
 intro fuel
 induction fuel with
 | zero =>
  intro listed a w hap hr hy hS h0
  constructor
  ·intro e; rw [e] at hr; cases hr
  ·intro j hj
   rcases Nat.decEq j i with hne | rfl
   ·have := ready_mono hj hne; rw [h0.1] at this; cases this
   ·exact hy.wpOp hi hS ⟨fun _ => hS, h0⟩
 | succ f ih =>
  intro listed a w hap hr hy hS h0
  constructor
  ·intro e; rw [e] at hr; cases hr
  ·intro j hj
   rcases Nat.decEq j i with hne | rfl
   case isTrue => exact hy.wpOp hi hS ⟨fun _ => hS, h0⟩
   obtain ⟨hjl, oj, hoj, hedge⟩ := mem_ready.1 hj
   have hil := (mem_ready.1 hr).1
   have hunl : listed.getD i false = false := by
    rcases Nat.lt_or_ge i listed.size with hlt | hge
    ·simpa [hlt] using hil
    ·simp [Array.getElem?_eq_none hge] at hil
   have hno : ∀ e ∈ oj.after, Region.binds .any e = true → e.on ≠ i := by
    intro e he hb hon
    have := hedge e he hb
    rw [hon, hunl] at this; cases this
   have hjL : j ≠ L := by
    intro e; subst e
    simp only [waits, hoj, Bool.and_eq_true] at hw
    obtain ⟨e, he, hb⟩ := Array.any_eq_true'.1 hw.2
    simp only [Bool.and_eq_true, beq_iff_eq] at hb
    exact hno e he hb.1 hb.2
   have step := wpOp_putIf hoj (hap j oj hoj hne hjl hno) (fun cs b => hsel i oi cs b hi) (fun cs b => hsel j oj cs b hoj) (fun c a w hq => absurd hq (hQ _ _ _)) hy (h0.2 j (ready_mono hj hne))
   refine wpOp_mono (fun a' w' h => ⟨fun _ => h.2.1 hjL, ih (listed.setIfInBounds j true) a' w' ?_ (ready_mono hr (Ne.symm hne)) h.1 (h.2.1 hjL) ?_⟩) step
   ·intro k ok hk hki hun hnk
    refine hap k ok hk hki ?_ hnk
    rcases Nat.decEq j k with hjk | rfl
    ·rw [getD_set_ne true hjk] at hun; exact hun
    ·exact hjl
   ·rw [Array.setIfInBounds_comm _ _ hne]; exact h.2.2
end orders
structure NP (Q : Post) : Prop where
 go : ∀ c a w, ¬ Q (.panic c) a w
theorem NP.then_ {K : Act → World → Prop} {Q : Post} (h : NP Q) : NP (Exit.then K Q) := ⟨fun c a w hq => h.go c a w hq⟩
theorem NP.block {id : Nat} {Q : Post} (h : NP Q) : NP (Exit.inBlock id Q) := ⟨fun c a w hq => h.go c a w hq⟩
theorem NP.body {P : Program} {fn : Func} {Γ0 : Env} {post : Value → Env → List Blk → Prop} : NP (bodyQ P fn Γ0 post) := ⟨fun c a w hq => by
 obtain ⟨_, v, Γ', H', e, _⟩ := hq
 cases e⟩
section
variable {P : Program} {ops : Array Oper} {Q : Post} {L n : Nat} {D : List Deferred} {R : Regs} {Γ Γs : Env} {H Hs : List Blk}
inductive Plan where
 | done
 | take (i : Nat) (p : Plan)
 | one (i : Nat) (p : Plan)
 | two (i j : Nat) (p q : Plan)
def takeOk (ops : Array Oper) (L : Nat) (listed : Array Bool) (i : Nat) : Bool := Region.free .any ops listed i && (Region.ready .any ops listed).contains i && waits ops L i
def planOk (ops : Array Oper) (L : Nat) : Plan → Nat → Array Bool → Bool
 | .done, _, listed => (Region.ready .any ops listed).isEmpty
 | .take i p, f + 1, listed => takeOk ops L listed i && planOk ops L p f (listed.setIfInBounds i true)
 | .one i p, f + 1, listed => Region.ready .any ops listed == [i] && planOk ops L p f (listed.setIfInBounds i true)
 | .two i j p q, f + 1, listed => Region.ready .any ops listed == [i, j] && planOk ops L p f (listed.setIfInBounds i true) && planOk ops L q f (listed.setIfInBounds j true)
 | _, 0, _ => false
def regionOk (ops : Array Oper) (L : Nat) (p : Plan) : Bool := Region.noSelect ops && planOk ops L p ops.size (Array.replicate ops.size false)
structure WD (P : Program) (ops : Array Oper) (Q : Post) (L : Nat) (Γs : Env) (Hs : List Blk) (n : Nat) (D : List Deferred) (p : Plan) (R : Regs) (Γ : Env) (H : List Blk) : Prop where
 go : Region.noSelect ops = true → ∀ fuel listed, planOk ops L p fuel listed = true → ∀ a w, Sat n D R Γ H a w → RO Γs Hs w → anyL P ops Q (RO Γs Hs) L fuel listed a w
theorem WC.draw {id : Nat} {ops : Array Oper} (L : Nat) (p : Plan) (Hs : List Blk) (hm : P.follows .mixedOrders = true) (hH : subH H Hs) (hok : regionOk ops L p = true)
  (h : WD P ops Q L Γ Hs n D p R Γ H) : WC P (.region id ops true) Q n D R Γ H :=
 ⟨fun a w hs => by
  simp only [regionOk, Bool.and_eq_true] at hok
  exact wp_region_any hm (anyL_any _ _ _ _ (h.go hok.1 _ _ hok.2 a _ (hs.world hs.st.drew) (RO.of_st (Env.le.rfl' _) hH hs.st.drew)))⟩
theorem WD.take {i : Nat} {o : Oper} {d : Nat} {v : Value} {p : Plan} (hi : ops[i]? = some o) (hdst : o.dst = some d) (hnp : NP Q) (hd : Nat.blt d n = true)
  (hy : ∀ a, Fits R a → YieldsIf P ops (RO Γs Hs) o v a) (k : WD P ops Q L Γs Hs n D p ((d, v) :: R) Γ H) : WD P ops Q L Γs Hs n D (.take i p) R Γ H :=
 ⟨fun hsel fuel listed hok a w hs hro => by
  cases fuel with
  | zero => cases hok
  | succ fuel =>
   simp only [planOk, takeOk, Bool.and_eq_true] at hok
   refine anyL_first hi hsel hok.1.2 hnp.go fuel listed a w (Region.free_spec hi hok.1.1.1) (by simpa using hok.1.1.2) (hy a hs.regs) hro ?_
   rw [hdst]
   exact k.go hsel _ _ hok.2 _ _ (hs.put hd v hs.st) hro⟩
theorem YieldsIf.of_run {S : World → Prop} {dst : Option Tmp} {op : Op} {ty : TypeId} {pos : String} {aft : Array Edge} {v : Value} {a : Act} (h : ∀ w, S w → (execOp a.eval ⟨dst, op, ty, pos, aft, none⟩).run P w = .ok (.value v) w) :
  YieldsIf P ops S ⟨dst, op, ty, pos, aft, none⟩ v a := .inl ⟨rfl, h⟩
theorem YieldsIf.of_runG {S : World → Prop} {dst : Option Tmp} {op : Op} {ty : TypeId} {pos : String} {aft : Array Edge} {v : Value} {a : Act} {j dj : Nat} {want : Bool} {oj : Oper} (hj : ops[j]? = some oj) (hdj : oj.dst = some dj)
  (hR : Fits R a) (hr : rget R dj = some (.bool want)) (h : ∀ w, S w → (execOp a.eval ⟨dst, op, ty, pos, aft, some (j, want)⟩).run P w = .ok (.value v) w) :
  YieldsIf P ops S ⟨dst, op, ty, pos, aft, some (j, want)⟩ v a := .inl ⟨by
   have := hR dj _ hr
   simp [Region.wanted, yielded, hj, hdj, this], h⟩
variable {p : Plan} {i d : Nat} {ty : TypeId} {pos : String} {aft : Array Edge}
theorem WD.pure {T : Tab} (hT : TabOk P T) {op : Op} {v : Value} (hi : ops[i]? = some ⟨some d, op, ty, pos, aft, none⟩) (hnp : NP Q) (hd : Nat.blt d n = true) (hv : evalP T R op = some v)
  (k : WD P ops Q L Γs Hs n D p ((d, v) :: R) Γ H) : WD P ops Q L Γs Hs n D (.take i p) R Γ H :=
 WD.take hi rfl hnp hd (fun a hR => YieldsIf.of_run fun w _ => evalP_ok hT hR hv _ _ _ _ _ _) k
theorem WD.pureG {T : Tab} (hT : TabOk P T) {op : Op} {v : Value} {j dj : Nat} {want : Bool} {oj : Oper} (hi : ops[i]? = some ⟨some d, op, ty, pos, aft, some (j, want)⟩) (hnp : NP Q) (hd : Nat.blt d n = true)
  (hj : ops[j]? = some oj) (hdj : oj.dst = some dj) (hr : rget R dj = some (.bool want)) (hv : evalP T R op = some v)
  (k : WD P ops Q L Γs Hs n D p ((d, v) :: R) Γ H) : WD P ops Q L Γs Hs n D (.take i p) R Γ H :=
 WD.take hi rfl hnp hd (fun a hR => YieldsIf.of_runG hj hdj hR hr fun w _ => evalP_ok hT hR hv _ _ _ _ _ _) k
theorem WD.no {op : Op} {j dj : Nat} {want b : Bool} {oj : Oper} (hi : ops[i]? = some ⟨some d, op, ty, pos, aft, some (j, want)⟩) (hnp : NP Q) (hd : Nat.blt d n = true)
  (hj : ops[j]? = some oj) (hdj : oj.dst = some dj) (hr : rget R dj = some (.bool b)) (hb : (b == want) = false)
  (k : WD P ops Q L Γs Hs n D p ((d, undef) :: R) Γ H) : WD P ops Q L Γs Hs n D (.take i p) R Γ H :=
 WD.take hi rfl hnp hd (fun a hR => .inr ⟨by
  have := hR dj _ hr
  simp [Region.wanted, yielded, hj, hdj, this]
  intro e; subst e; simp at hb, rfl⟩) k
theorem WD.build {T : Tab} (hT : TabOk P T) {t : TypeId} {ps : Array (Nat × Operand)} {l l' : List Value} (hi : ops[i]? = some ⟨some d, .build t ps, ty, pos, aft, none⟩) (hnp : NP Q) (hd : Nat.blt d n = true) (hv : evalB T R t ps = some l) (hl : Spine l l')
  (k : WD P ops Q L Γs Hs n D p ((d, .agg l'.toArray) :: R) Γ H) : WD P ops Q L Γs Hs n D (.take i p) R Γ H :=
 WD.take hi rfl hnp hd (fun a hR => YieldsIf.of_run fun w _ => evalB_ok hT hR (hl.eq ▸ hv) _ _ _ _ _ _) k
theorem RO.cell {w : World} (h : RO Γs Hs w) {b o : Nat} {c : Array Value} {t : TypeId} {fz : Nat × Nat} {H' : List Blk} (p : Pick Hs b (.cells c t fz) H') {v : Value} (e : lget c.toList o = some v) : w.cell? ⟨b, o, none⟩ = some v := by
 rw [cell_of_heap (h.own b _ (p.perm.mem_iff.2 (List.mem_cons_self ..))), ← e, lget_eq]; simp
theorem RO.icell {w : World} (h : RO Γs Hs w) {b o : Nat} {v : Value} (e : Γs.cell b o = some v) : w.cell? ⟨b, o, none⟩ = some v := by
 unfold Env.cell at e
 split at e
 ·next c t fz hb => rw [cell_of_heap (h.imm b _ hb)]; exact e
 ·cases e
structure Ld (P : Program) (Γs : Env) (Hs : List Blk) (t : TypeId) (b o : Nat) (v : Value) : Prop where
 go : ∀ w, RO Γs Hs w → (loadVar t ⟨b, o, none⟩).run P w = .ok v w
theorem Ld.own {T : Tab} (hT : TabOk P T) {t : TypeId} {b o : Nat} {j : TI} {c : Array Value} {tt : TypeId} {fz : Nat × Nat} {H' : List Blk} {v : Value}
  (hj : T.get t = some j) (ha : TypeDesc.agg j.desc = false) (hp : Pick Hs b (.cells c tt fz) H') (hv : lget c.toList o = some v) : Ld P Γs Hs t b o v :=
 ⟨fun w hw => run_loadVar1 hT hj ha (hw.cell hp hv)⟩
theorem Ld.imm {T : Tab} (hT : TabOk P T) {t : TypeId} {b o : Nat} {j : TI} {v : Value}
  (hj : T.get t = some j) (ha : TypeDesc.agg j.desc = false) (hv : Γs.cell b o = some v) : Ld P Γs Hs t b o v :=
 ⟨fun w hw => run_loadVar1 hT hj ha (hw.icell hv)⟩
theorem Ld.ownA {T : Tab} (hT : TabOk P T) {t : TypeId} {b o : Nat} {j : TI} {c : Array Value} {tt : TypeId} {fz : Nat × Nat} {H' : List Blk} {l : List Value}
  (hj : T.get t = some j) (ha : TypeDesc.agg j.desc = true) (hp : Pick Hs b (.cells c tt fz) H') (hc : Cut o j.size c.toList l) : Ld P Γs Hs t b o (.agg l.toArray) :=
 ⟨fun w hw => run_loadVarN hT hj ha (by rw [llen_eq, hc.len]) (cellsAt_mk fun q v e => by
  have h1 := cell_of_heap (o := o + q) (hw.own b _ (hp.perm.mem_iff.2 (List.mem_cons_self ..)))
  rw [h1]; have := hc.get q v e; simpa using this)⟩
theorem Ld.immA {T : Tab} (hT : TabOk P T) {t : TypeId} {b o : Nat} {j : TI} {l : List Value}
  (hj : T.get t = some j) (ha : TypeDesc.agg j.desc = true) (hc : cellsAt (Γs.cell b) o l) (hl : llen l = j.size) : Ld P Γs Hs t b o (.agg l.toArray) :=
 ⟨fun w hw => run_loadVarN hT hj ha hl (cellsAt_mk fun q v e => hw.icell (cellsAt_get hc q v e))⟩
theorem WD.load {t : TypeId} {x : Operand} {b o : Nat} {v : Value} (hi : ops[i]? = some ⟨some d, .load t x, ty, pos, aft, none⟩) (hnp : NP Q) (hd : Nat.blt d n = true)
  (hx : ev R x = some (.pointer (some ⟨b, o, none⟩))) (hl : Ld P Γs Hs t b o v)
  (k : WD P ops Q L Γs Hs n D p ((d, v) :: R) Γ H) : WD P ops Q L Γs Hs n D (.take i p) R Γ H :=
 WD.take hi rfl hnp hd (fun a hR => YieldsIf.of_run fun w hw => exec_load hR hx (hl.go w hw) _ _) k
theorem WD.loadG {t : TypeId} {x : Operand} {b o : Nat} {v : Value} {j dj : Nat} {want : Bool} {oj : Oper} (hi : ops[i]? = some ⟨some d, .load t x, ty, pos, aft, some (j, want)⟩) (hnp : NP Q) (hd : Nat.blt d n = true)
  (hj : ops[j]? = some oj) (hdj : oj.dst = some dj) (hr : rget R dj = some (.bool want)) (hx : ev R x = some (.pointer (some ⟨b, o, none⟩))) (hl : Ld P Γs Hs t b o v)
  (k : WD P ops Q L Γs Hs n D p ((d, v) :: R) Γ H) : WD P ops Q L Γs Hs n D (.take i p) R Γ H :=
 WD.take hi rfl hnp hd (fun a hR => YieldsIf.of_runG hj hdj hR hr fun w hw => exec_load hR hx (hl.go w hw) _ _) k
theorem WD.idx {T : Tab} (hT : TabOk P T) {t e : TypeId} {x ix : Operand} {b o len cap s : Nat} {kk : IntKind} {z : Int} (hi : ops[i]? = some ⟨some d, .indexAddr t x ix, ty, pos, aft, none⟩) (hnp : NP Q) (hd : Nat.blt d n = true)
  (hx : ev R x = some (.slice (some ⟨b, o, none⟩) len cap)) (hz : ev R ix = some (.int kk z)) (ht : T.desc t = some (.slice e)) (hs : T.size e = some s) (h0 : 0 ≤ z) (h1 : z < len)
  (k : WD P ops Q L Γs Hs n D p ((d, .pointer (some ⟨b, o + z.toNat * s, none⟩)) :: R) Γ H) : WD P ops Q L Γs Hs n D (.take i p) R Γ H :=
 WD.take hi rfl hnp hd (fun a hR => YieldsIf.of_run fun w hw => by
  simp only [execOp, ev_eval hR hx, ev_eval hR hz, Instr.indexAt, asIntOf, Sem.run_bind, Sem.run_pure, Result.andThen_ok, run_underlying (Tab.desc_ok hT ht)]
  simp [h0, h1, run_sizeOf'' hT hs, Addr.add_lit]) k
theorem WD.idxG {T : Tab} (hT : TabOk P T) {t e : TypeId} {x ix : Operand} {b o len cap s : Nat} {kk : IntKind} {z : Int} {j dj : Nat} {want : Bool} {oj : Oper} (hi : ops[i]? = some ⟨some d, .indexAddr t x ix, ty, pos, aft, some (j, want)⟩) (hnp : NP Q) (hd : Nat.blt d n = true)
  (hj : ops[j]? = some oj) (hdj : oj.dst = some dj) (hr : rget R dj = some (.bool want)) (hx : ev R x = some (.slice (some ⟨b, o, none⟩) len cap)) (hz : ev R ix = some (.int kk z)) (ht : T.desc t = some (.slice e)) (hs : T.size e = some s) (h0 : 0 ≤ z) (h1 : z < len)
  (k : WD P ops Q L Γs Hs n D p ((d, .pointer (some ⟨b, o + z.toNat * s, none⟩)) :: R) Γ H) : WD P ops Q L Γs Hs n D (.take i p) R Γ H :=
 WD.take hi rfl hnp hd (fun a hR => YieldsIf.of_runG hj hdj hR hr fun w hw => by
  simp only [execOp, ev_eval hR hx, ev_eval hR hz, Instr.indexAt, asIntOf, Sem.run_bind, Sem.run_pure, Result.andThen_ok, run_underlying (Tab.desc_ok hT ht)]
  simp [h0, h1, run_sizeOf'' hT hs, Addr.add_lit]) k
theorem WD.slLo {T : Tab} (hT : TabOk P T) {t e : TypeId} {x y : Operand} {a0 : Option Addr} {len cap s : Nat} {kk : IntKind} {li : Int} (hi : ops[i]? = some ⟨some d, .slice t x (some y) none none, ty, pos, aft, none⟩) (hnp : NP Q) (hd : Nat.blt d n = true)
  (hx : ev R x = some (.slice a0 len cap)) (ht : T.desc t = some (.slice e)) (hs : T.size e = some s) (hy : ev R y = some (.int kk li)) (h0 : 0 ≤ li) (h1 : li ≤ len) (h2 : len ≤ cap)
  (k : WD P ops Q L Γs Hs n D p ((d, .slice (saddr a0 cap li.toNat s) (len - li.toNat) (cap - li.toNat)) :: R) Γ H) : WD P ops Q L Γs Hs n D (.take i p) R Γ H :=
 WD.take hi rfl hnp hd (fun a hR => YieldsIf.of_run fun w hw => by
  simp only [execOp, ev_eval hR hx, Option.map_some, Option.map_none, ev_eval hR hy, Sem.run_bind]
  rw [run_slice hT ht hs (lo := some (.int kk li)) (hi := none) (l := li.toNat) (h := len) ⟨kk, li, rfl, h0, rfl⟩ rfl (by omega) h2 w]; rfl) k
def thenD (P : Program) (ops : Array Oper) (Q : Post) (L : Nat) (Γs : Env) (Hs : List Blk) (i : Nat) (p : Plan) : Post :=
 Exit.then (fun a w => (i ≠ L → RO Γs Hs w) ∧ ∀ fuel listed, Region.noSelect ops = true → planOk ops L p fuel listed = true → anyL P ops Q (RO Γs Hs) L fuel listed a w) Q
theorem WE.drawn (hle : Γs.le Γ) (hH : subH H Hs) (k : WD P ops Q L Γs Hs n D p R Γ H) : WE (thenD P ops Q L Γs Hs i p) .normal n D R Γ H :=
 ⟨fun a w hs => ⟨fun _ => RO.of_st hle hH hs.st, fun _ _ hsel hok => k.go hsel _ _ hok a w hs (RO.of_st hle hH hs.st)⟩⟩
theorem WE.drawnL (k : WE Q .normal n D R Γ H) : WE (thenD P ops Q L Γs Hs L .done) .normal n D R Γ H :=
 ⟨fun a w hs => ⟨fun h => absurd rfl h, fun fuel listed _ hok => by
  have hr : Region.ready .any ops listed = [] := by cases fuel <;> simpa [planOk] using hok
  cases fuel <;> exact ⟨by first | exact hr | exact fun _ => k.go a w hs, by first | exact k.go a w hs | (rw [hr]; simp)⟩⟩⟩
theorem wpOp_of_list {i : Nat} {o : Oper} (hi : ops[i]? = some o) {K : Act → World → Prop} {a : Act} {w : World} (h : wpList P ops (Exit.then K Q) [o] a w) : wpOp P ops Q i K a w := by
 unfold wpOp
 simp only [hi]
 unfold wpList at h
 split at h
 ·next hw =>
  rw [if_pos hw]
  rcases h with h | ⟨h1, a0, w0, h2⟩
  ·refine .inl ?_
   unfold Oper.wp at *
   generalize (execOp a.eval o).run P w = r at *
   cases r with
   | ok m w' =>
    cases m <;> simp only [Oper.upon, wpList] at h ⊢ <;> first
     | exact h
     | exact Calls.mono h (fun e w'' he => by cases e <;> exact he)
     | exact Rows.mono h (fun _ _ he => he)
   | halt x w' => cases x <;> simp only [Oper.upon] at h ⊢ <;> exact h
  ·exact .inr ⟨h1, a0, w0, h2⟩
 ·next hw => rw [if_neg hw]; exact h
theorem anyL_all {S : World → Prop} {fuel : Nat} {listed : Array Bool} {rs : List Nat} {a : Act} {w : World} (hr : Region.ready .any ops listed = rs) (hne : rs ≠ [])
  (h : ∀ i ∈ rs, wpOp P ops Q i (fun a' w' => (i ≠ L → S w') ∧ anyL P ops Q S L fuel (listed.setIfInBounds i true) a' w') a w) : anyL P ops Q S L (fuel + 1) listed a w :=
 ⟨fun e => absurd (hr.symm.trans e) hne, fun i hi => h i (hr ▸ hi)⟩
theorem WD.one {o : Oper} (hi : ops[i]? = some o) (h : WL P ops (thenD P ops Q L Γs Hs i p) n D [o] R Γ H) : WD P ops Q L Γs Hs n D (.one i p) R Γ H :=
 ⟨fun hsel fuel listed hok a w hs hro => by
  cases fuel with
  | zero => cases hok
  | succ fuel =>
   simp only [planOk, Bool.and_eq_true, beq_iff_eq] at hok
   refine anyL_all hok.1 (by simp) fun j hj => ?_
   have : j = i := by simpa using hj
   subst this
   exact wpOp_mono (fun _ _ h => ⟨h.1, h.2 _ _ hsel hok.2⟩) (wpOp_of_list hi (h.go a w hs))⟩
theorem WD.two {o o' : Oper} {j : Nat} {q : Plan} (hi : ops[i]? = some o) (hj : ops[j]? = some o') (h : WL P ops (thenD P ops Q L Γs Hs i p) n D [o] R Γ H)
  (h' : WL P ops (thenD P ops Q L Γs Hs j q) n D [o'] R Γ H) : WD P ops Q L Γs Hs n D (.two i j p q) R Γ H :=
 ⟨fun hsel fuel listed hok a w hs hro => by
  cases fuel with
  | zero => cases hok
  | succ fuel =>
   simp only [planOk, Bool.and_eq_true, beq_iff_eq] at hok
   refine anyL_all hok.1.1 (by simp) fun k hk => ?_
   rcases List.mem_cons.1 hk with e | e
   ·subst e; exact wpOp_mono (fun _ _ h => ⟨h.1, h.2 _ _ hsel hok.1.2⟩) (wpOp_of_list hi (h.go a w hs))
   ·have : k = j := by simpa using e
    subst this
    exact wpOp_mono (fun _ _ h => ⟨h.1, h.2 _ _ hsel hok.2⟩) (wpOp_of_list hj (h'.go a w hs))⟩
theorem WD.done (k : WE Q .normal n D R Γ H) : WD P ops Q L Γs Hs n D .done R Γ H :=
 ⟨fun _ fuel listed hok a w hs _ => by
  have hr : Region.ready .any ops listed = [] := by cases fuel <;> simpa [planOk] using hok
  cases fuel <;> exact ⟨by first | exact hr | exact fun _ => k.go a w hs, by first | exact k.go a w hs | (rw [hr]; simp)⟩⟩
theorem WE.drop {e : Exit} {b : Nat} {o : Obj} {H' : List Blk} (hp : Pick H b o H') (k : WE Q e n D R Γ H') : WE Q e n D R Γ H := ⟨fun a w hs => k.go a w (hs.world (hs.st.perm hp.perm).drop)⟩
theorem WC.drop {c : Code} {b : Nat} {o : Obj} {H' : List Blk} (hp : Pick H b o H') (k : WC P c Q n D R Γ H') : WC P c Q n D R Γ H := ⟨fun a w hs => k.go a w (hs.world (hs.st.perm hp.perm).drop)⟩
theorem WE.at_ {α : Type} {Rf : α → Regs} {Γf : α → Env} {Hf : α → List Blk} {I : α → Prop} (x : α) (hI : I x) (hR : subR R (Rf x)) (hΓ : Γ = Γf x) (hH : ∀ w, St Γ H w → St (Γf x) (Hf x) w) :
  WE (Exit.then (fun a w => ∃ x, I x ∧ Sat n D (Rf x) (Γf x) (Hf x) a w) Q) .normal n D R Γ H :=
 ⟨fun a w hs => ⟨x, hI, hs.defers, hs.size, fun i v e => hs.regs i v (subR_get hR i v e), hH w hs.st⟩⟩
theorem WE.round {α : Type} {Rf : α → Regs} {Γf : α → Env} {Hf : α → List Blk} {I : α → Prop} {μ : α → Nat} {x0 : α} (x : α) (hI : I x) (hμ : μ x < μ x0) (hR : subR R (Rf x)) (hH : ∀ w, St Γ H w → St (Γf x) (Hf x) w) :
  WE (Exit.then (fun a w => ∃ y, I y ∧ μ y < μ x0 ∧ Sat n D (Rf y) (Γf y) (Hf y) a w) Q) .normal n D R Γ H :=
 ⟨fun a w hs => ⟨x, hI, hμ, hs.defers, hs.size, fun i v e => hs.regs i v (subR_get hR i v e), hH w hs.st⟩⟩
end
end Go.Sl
