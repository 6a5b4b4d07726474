/- Parts of the proof: Sl6 Nu Sl7 Sl8 Sl9 SlR SlD. -/
import Derived.Test.YtbgkbgoonjkghaaGreatDoorA1
import Derived.Deep.Upon
import Derived.Laws.MakeOwn
import Derived.Laws.BitsLemmas
import Derived.Laws.IdiomStrings
import Derived.Laws.BytesArg
import Derived.Laws.Strings
import Derived.Carry
import Derived.Lib.BytesEntry
import Derived.Laws.ResultCell
namespace Go.Sl
open Go Go.BigFrame
theorem Tab.bytes_get {T : Tab} {t : Nat} {j : TI} (h : T.get t = some j) : T.bytes t = some j.bytes := by
 unfold Tab.bytes; rw [h]
theorem Tab.zc_get {T : Tab} {t : Nat} {j : TI} (h : T.get t = some j) : T.zc t = some j.zc := by
 unfold Tab.zc; rw [h]
inductive Ow (s : Nat) : Value → Nat → List Value → List Blk → Prop where
 | nil : Ow s (.slice none 0 0) 0 [] []
 | row {b cap n : Nat} {l sp : List Value} {T : TypeId} {fz : Nat × Nat} (h1 : n ≤ cap) (h2 : l.length = n * s) (h3 : sp.length + l.length = cap * s) (hz : thawed fz (l ++ sp).length) : Ow s (.slice (some ⟨b, 0, none⟩) n cap) n l [(b, celF (l ++ sp) T fz)]
theorem Ow.len {s : Nat} {v : Value} {n : Nat} {l : List Value} {Hs : List Blk} (h : Ow s v n l Hs) : l.length = n * s := by
 cases h with
 | nil => simp
 | row _ h2 _ _ => exact h2
theorem setAll_append : ∀ (vs l sp : List Value), vs.length ≤ sp.length → setAll l.length vs (l ++ sp) = l ++ vs ++ sp.drop vs.length
 | [], l, sp, _ => by simp [setAll]
 | v :: vs, l, [], h => by simp at h
 | v :: vs, l, x :: sp, h => by
  have := setAll_append vs (l ++ [v]) sp (by simpa using h)
  simp only [setAll, List.length_append, List.length_singleton] at this ⊢
  rw [show (l ++ x :: sp).set l.length v = l ++ [v] ++ sp by simp, this]
  simp
section
variable {P : Program} {ops : Array Oper} {Q : Post} {n : Nat} {D : List Deferred} {R : Regs} {Γ : Env} {H : List Blk} {rest : List Oper}
variable {d : Nat} {ty : TypeId} {pos : String} {aft : Array Edge}
theorem exec_append {T : Tab} (hT : TabOk P T) {t tx e : TypeId} {j : TI} {v u : Value} {k m : Nat} {l news : List Value} {Hs F : List Blk} {w : World}
  (ht : T.desc t = some (.slice e)) (hj : T.get e = some j) (hz : Nat.beq (llen j.zc) j.size = true) (how : Ow j.size v k l Hs) (hs : Src P j.size tx u m news w)
  (hb : (k + m) * j.bytes ≤ 140737488355328) (h63 : k + m ≤ 140737488355328) (hw : St Γ (Hs ++ F) w) :
  ∃ v' w' Hs', (Builtin.append_ #[t, tx] ty #[v, u]).run P w = .ok v' w' ∧ Ow j.size v' (k + m) (l ++ news) Hs' ∧ St Γ (Hs' ++ F) w' := by
 have hu := Tab.desc_ok hT ht
 obtain ⟨_, i, hi, his, hib, hiz, hzc⟩ := hT.get hj
 have hzl : i.zero = some j.zero := hiz
 have hzs : j.zero.cells.size = j.size := by
  rw [← Array.length_toList, vcells_eq, hzc, ← llen_eq]; exact Nat.eq_of_beq_eq_true hz
 have hnl := hs.newsLen
 rw [← his] at hs
 have grow : ∀ (bs : Option Addr) (sc : Nat), v = .slice bs k sc → sc < k + m → (Builtin.firstCells i.size k (.slice bs k sc)).run P w.drew = .ok l.toArray w.drew → St Γ F w.drew →
   ∃ v' w' Hs', (Builtin.append_ #[t, tx] ty #[v, u]).run P w = .ok v' w' ∧ Ow j.size v' (k + m) (l ++ news) Hs' ∧ St Γ (Hs' ++ F) w' := by
  rintro bs sc rfl hg hold hF
  have hrun := run_append_grow_src (P := P) w t tx ty e i j.zero hu hi hzl bs k sc l hold u m news hs hg (by omega) (growslice_fits hg (by rw [hib]; exact hb))
  have hge := grownCap_ge w (k + m) sc e
  refine ⟨_, _, [(w.heap.size, cel ((l ++ news) ++ (Builtin.zeroCells j.zero.cells (grownCap w (k + m) sc e - (k + m))).toList) e)], hrun, ?_, ?_⟩
  ·have hll : (l ++ news).length = (k + m) * j.size := by rw [List.length_append, how.len, hnl, Nat.add_mul]
   refine Ow.row hge hll ?_ (.inl (Nat.le_refl _))
   rw [hll, Array.length_toList, size_zeroCells, hzs, ← Nat.add_mul]
   congr 1; omega
  ·have := hF.alloc (cel ((l ++ news) ++ (Builtin.zeroCells j.zero.cells (grownCap w (k + m) sc e - (k + m))).toList) e)
   have e1 : ((l ++ news) ++ (Builtin.zeroCells j.zero.cells (grownCap w (k + m) sc e - (k + m))).toList).toArray = (l ++ news).toArray ++ Builtin.zeroCells j.zero.cells (grownCap w (k + m) sc e - (k + m)) := by
    apply Array.ext'; simp
   unfold cel at this
   rw [e1] at this
   unfold cel
   rw [e1]
   exact this
 cases how with
 | nil =>
  rcases Nat.eq_zero_or_pos m with h0 | h0
  ·subst h0
   obtain rfl : news = [] := List.eq_nil_of_length_eq_zero (by simpa using hnl)
   exact ⟨_, _, [], run_append_nothing w t tx ty e i hu hi none 0 0 (Nat.le_refl _) u hs, Ow.nil, hw⟩
  ·exact grow none 0 rfl (by omega) (run_firstCells_none w.drew i.size 0 0 0) hw.drew
 | @row b cap _ _ sp T' fz h1 h2 h3 hfz =>
  rcases Nat.lt_or_ge cap (k + m) with hg | hg
  ·refine grow _ cap rfl hg (run_firstCells_some w.drew i.size k ⟨b, 0, none⟩ k cap l (by rw [h2, his]) fun q x hq => ?_) (St.drop hw).drew
   rw [Addr.add_lit, Nat.zero_add]
   have hb' := hw.own b _ (List.mem_cons_self ..)
   show w.cell? _ = _
   rw [cell_of_heap hb']
   have hlt := (List.getElem?_eq_some_iff.1 hq).1
   simp only [List.getElem?_toArray]
   rw [List.getElem?_append_left hlt, hq]
  ·have hb' := hw.own b _ (List.mem_cons_self ..)
   have hfit : news.length ≤ sp.length := by
    have : (k + m) * j.size ≤ cap * j.size := Nat.mul_le_mul_right _ hg
    rw [Nat.add_mul] at this
    omega
   have eo : k * i.size = l.length := by rw [his, h2]
   have hrun := run_append_room_src (P := P) w t tx ty e i hu hi b 0 k cap u m news hs hg (fun q hq => by
     rw [eo, cell_of_heap hb']; simp; omega) (fun q hq => frozenF_of_heap hb' hfz (by rw [eo, List.length_append]; omega))
   obtain ⟨w', hr, hst⟩ := run_storeCells (P := P) (b := b) (t := T') (o := l.length) news 0 (l ++ sp) w hfz hw (by simp; omega) hs.one
   have hst2 := run_storeCells_cells (P := P) b l.length news 0 w (by simpa using fun q hq => by rw [cell_of_heap hb']; simp; omega) (by simpa using fun q hq => frozenF_of_heap hb' hfz (by rw [List.length_append]; omega)) hs.one
   rw [hst2] at hr
   injection hr with _ hw'
   rw [Nat.add_zero] at hw'
   rw [Nat.zero_add, eo, hw'] at hrun
   rw [Nat.add_zero, setAll_append _ _ _ hfit] at hst
   refine ⟨_, _, _, hrun, Ow.row (T := T') (sp := sp.drop news.length) hg (by rw [List.length_append, h2, hnl, Nat.add_mul]) ?_ ?_, hst⟩
   ·rw [List.length_append, List.length_drop]; omega
   ·rw [List.length_append] at hfz; rw [List.length_append, List.length_append, List.length_drop, show l.length + news.length + (sp.length - news.length) = l.length + sp.length by omega]; exact hfz
theorem WL.append {T : Tab} (hT : TabOk P T) {t tx e : TypeId} {x y : Operand} {j : TI} {sz bt : Nat} {v u : Value} {k m : Nat} {l news : List Value} {Hs F : List Blk}
  (hx : ev R x = some v) (hy : ev R y = some u) (ht : T.desc t = some (.slice e)) (hj : T.get e = some j) (hz : Nat.beq (llen j.zc) j.size = true) (hd : Nat.blt d n = true) (hsz : T.size e = some sz) (hbt : T.bytes e = some bt)
  (how : Ow sz v k l Hs) (hH : Tk H Hs F) (hs : ∀ w, St Γ H w → Src P sz tx u m news w)
  (hb : (k + m) * bt ≤ 140737488355328) (h63 : k + m ≤ 140737488355328)
  (K : ∀ v' Hs', Ow sz v' (k + m) (l ++ news) Hs' → WL P ops Q n D rest ((d, v') :: R) Γ (Hs' ++ F)) :
  WL P ops Q n D (⟨some d, .call { callee := .builtin .append, args := #[x, y], argTypes := #[t, tx] }, ty, pos, aft, none⟩ :: rest) R Γ H :=
 WL.value hd fun a w hw => by
  rw [Tab.size_get hj] at hsz; injection hsz with hsz; subst hsz
  rw [Tab.bytes_get hj] at hbt; injection hbt with hbt; subst hbt
  obtain ⟨v', w', Hs', hr, ho, hst⟩ := exec_append (ty := ty) hT ht hj hz how (hs w hw.st) hb h63 (hw.st.perm hH.perm)
  refine ⟨v', w', ?_, Γ, _, hst, K v' Hs' ho⟩
  simp only [execOp, Sem.run_bind]
  simp [resolve, Go.invoke, builtin, ev_eval hw.regs hx, ev_eval hw.regs hy, hr, Result.andThen]
end
end Go.Sl
namespace Go.Sl
open Go
def BytA (Γ : Env) (a : Option Addr) (l : List UInt8) : Prop :=
 ∀ i x, l[i]? = some x → ∃ b o, a = some ⟨b, o, none⟩ ∧ Γ.cell b (o + i) = some (.int .u8 (x.toNat : Int))
def Byt (Γ : Env) (v : Value) (l : List UInt8) : Prop := ∃ a cap, v = .slice a l.length cap ∧ l.length ≤ cap ∧ BytA Γ a l
theorem BytA.mono {Γ Γ' : Env} (h : Γ.le Γ') {a l} (hb : BytA Γ a l) : BytA Γ' a l := fun i x e => by
 obtain ⟨b, o, h1, h2⟩ := hb i x e
 exact ⟨b, o, h1, h.cell h2⟩
theorem Byt.mono {Γ Γ' : Env} (h : Γ.le Γ') {v l} (hb : Byt Γ v l) : Byt Γ' v l := by
 obtain ⟨a, cap, h1, h2, h3⟩ := hb
 exact ⟨a, cap, h1, h2, h3.mono h⟩
theorem BytA.cons {Γ : Env} {a : Option Addr} {x : UInt8} {l : List UInt8} (h : BytA Γ a (x :: l)) :
  ∃ b o, a = some ⟨b, o, none⟩ ∧ ∀ i y, (x :: l)[i]? = some y → Γ.cell b (o + i) = some (.int .u8 (y.toNat : Int)) := by
 obtain ⟨b, o, h1, h2⟩ := h 0 x rfl
 refine ⟨b, o, h1, fun i y e => ?_⟩
 obtain ⟨b', o', h3, h4⟩ := h i y e
 rw [h1] at h3; injection h3 with h3; injection h3 with h3 h5
 subst h3 h5; exact h4
theorem BytA.nil {Γ : Env} {a : Option Addr} : BytA Γ a [] := fun i x e => by simp at e
theorem BytA.drop {Γ : Env} {a : Option Addr} {l : List UInt8} (h : BytA Γ a l) {cap k : Nat} (hc : l.length ≤ cap) : BytA Γ (saddr a cap k 1) (l.drop k) := fun i x e => by
 rw [List.getElem?_drop] at e
 obtain ⟨b, o, h1, h2⟩ := h (k + i) x e
 have hlt : k + i < l.length := by
  rcases Nat.lt_or_ge (k + i) l.length with h | h
  ·exact h
  ·simp [List.getElem?_eq_none h] at e
 refine ⟨b, o + k, ?_, by rw [Nat.add_assoc]; exact h2⟩
 unfold saddr
 rw [if_neg (by omega), h1]
 simp [Addr.add_lit]
theorem BytA.take {Γ : Env} {a : Option Addr} {l : List UInt8} (h : BytA Γ a l) (k : Nat) : BytA Γ a (l.take k) := fun i x e => by
 rw [List.getElem?_take] at e
 split at e
 ·exact h i x e
 ·cases e
theorem Byt.drop {Γ : Env} {a : Option Addr} {n cap : Nat} {l : List UInt8} (h : Byt Γ (.slice a n cap) l) (k : Nat) (hk : k ≤ n) : Byt Γ (.slice (saddr a cap k 1) (n - k) (cap - k)) (l.drop k) := by
 obtain ⟨a', cap', h1, h2, h3⟩ := h
 injection h1 with h4 h5 h6
 subst h4 h5 h6
 exact ⟨_, _, by rw [List.length_drop], by rw [List.length_drop]; omega, h3.drop h2⟩
theorem Byt.take {Γ : Env} {a : Option Addr} {n cap : Nat} {l : List UInt8} (h : Byt Γ (.slice a n cap) l) (k : Nat) (hk : k ≤ n) : Byt Γ (.slice a k cap) (l.take k) := by
 obtain ⟨a', cap', h1, h2, h3⟩ := h
 injection h1 with h4 h5 h6
 subst h4 h5 h6
 exact ⟨_, _, by rw [List.length_take, Nat.min_eq_left hk], by rw [List.length_take]; omega, h3.take k⟩
theorem Byt.sub {Γ : Env} {a : Option Addr} {n cap : Nat} {l : List UInt8} (h : Byt Γ (.slice a n cap) l) (i j : Nat) (hij : i ≤ j) (hj : j ≤ n) : Byt Γ (.slice (saddr a cap i 1) (j - i) (cap - i)) ((l.take j).drop i) := by
 obtain ⟨a', cap', h1, h2, h3⟩ := h
 injection h1 with h4 h5 h6
 subst h4 h5 h6
 refine ⟨_, _, by rw [List.length_drop, List.length_take, Nat.min_eq_left hj], by rw [List.length_drop, List.length_take]; omega, (h3.take j).drop (by rw [List.length_take]; omega)⟩
theorem Byt.nil {Γ : Env} : Byt Γ (.slice none 0 0) [] := ⟨none, 0, rfl, Nat.le_refl _, BytA.nil⟩
def le : List UInt8 → Nat
 | [] => 0
 | b :: l => b.toNat + 256 * le l
def num (big : Bool) (l : List UInt8) : Nat := bif big then le l.reverse else le l
def fixL : Nat → Nat → List UInt8
 | _, 0 => []
 | n, s + 1 => UInt8.ofNat (n % 256) :: fixL (n / 256) s
def fix (n s : Nat) (big : Bool) : List UInt8 := bif big then (fixL n s).reverse else fixL n s
theorem fixL_length : ∀ (s n : Nat), (fixL n s).length = s
 | 0, _ => rfl
 | s + 1, n => by simp [fixL, fixL_length s]
theorem fix_length (n s : Nat) (big : Bool) : (fix n s big).length = s := by cases big <;> simp [fix, fixL_length]
theorem le_fixL : ∀ (s n : Nat), n < 256 ^ s → le (fixL n s) = n
 | 0, n, h => by simp at h; subst h; rfl
 | s + 1, n, h => by
  have h1 : n / 256 < 256 ^ s := by rw [Nat.pow_succ] at h; exact Nat.div_lt_of_lt_mul (by omega)
  have h2 : (UInt8.ofNat (n % 256)).toNat = n % 256 := by simp
  simp only [fixL, le, le_fixL s _ h1, h2]
  omega
theorem num_fix {n s : Nat} (h : n < 256 ^ s) (big : Bool) : num big (fix n s big) = n := by
 cases big <;> simp [num, fix, le_fixL s n h]
theorem wu16 (n : Int) (h₀ : 0 ≤ n) (h₁ : n < 2 ^ 16) : IntKind.u16.wrap n = n := by
 simp only [IntKind.wrap, IntKind.bits, IntKind.signed]; simp; omega
theorem wu32 (n : Int) (h₀ : 0 ≤ n) (h₁ : n < 2 ^ 32) : IntKind.u32.wrap n = n := by
 simp only [IntKind.wrap, IntKind.bits, IntKind.signed]; simp; omega
theorem wu64 (n : Int) (h₀ : 0 ≤ n) (h₁ : n < 2 ^ 64) : IntKind.u64.wrap n = n := by
 simp only [IntKind.wrap, IntKind.bits, IntKind.signed]; simp; omega
theorem or_u16 (x y : UInt8) : bits .or .u16 (IntKind.u16.wrap (IntKind.u16.wrap (x.toNat : Int) * 2 ^ min (Int.toNat 8) IntKind.u16.bits)) (IntKind.u16.wrap (y.toNat : Int)) = ((y.toNat + 256 * x.toNat : Nat) : Int) := by
 have hx := x.toNat_lt
 have hy := y.toNat_lt
 have e : (2 : Int) ^ min (Int.toNat 8) IntKind.u16.bits = 256 := by decide
 rw [e, wu16 (x.toNat : Int) (by omega) (by omega), wu16 (y.toNat : Int) (by omega) (by omega), wu16 _ (by omega) (by omega)]
 rw [bits_join .u16 16 (by decide) wu16 8 _ _ (by omega) (by omega) (by omega) (by omega) (by omega) (by omega)]
 omega
theorem or_u32 (x y : Nat) (hx : x < 65536) (hy : y < 65536) : bits .or .u32 (IntKind.u32.wrap (IntKind.u32.wrap (x : Int) * 2 ^ min (Int.toNat 16) IntKind.u32.bits)) (IntKind.u32.wrap (y : Int)) = ((y + 65536 * x : Nat) : Int) := by
 have e : (2 : Int) ^ min (Int.toNat 16) IntKind.u32.bits = 65536 := by decide
 rw [e, wu32 (x : Int) (by omega) (by omega), wu32 (y : Int) (by omega) (by omega), wu32 _ (by omega) (by omega)]
 rw [bits_join .u32 32 (by decide) wu32 16 _ _ (by omega) (by omega) (by omega) (by omega) (by omega) (by omega)]
 omega
theorem or_u64 (x y : Nat) (hx : x < 4294967296) (hy : y < 4294967296) : bits .or .u64 (IntKind.u64.wrap (IntKind.u64.wrap (x : Int) * 2 ^ min (Int.toNat 32) IntKind.u64.bits)) (IntKind.u64.wrap (y : Int)) = ((y + 4294967296 * x : Nat) : Int) := by
 have e : (2 : Int) ^ min (Int.toNat 32) IntKind.u64.bits = 4294967296 := by decide
 rw [e, wu64 (x : Int) (by omega) (by omega), wu64 (y : Int) (by omega) (by omega), wu64 _ (by omega) (by omega)]
 rw [bits_join .u64 64 (by decide) wu64 32 _ _ (by omega) (by omega) (by omega) (by omega) (by omega) (by omega)]
 omega
theorem le_lt : ∀ (l : List UInt8), le l < 256 ^ l.length
 | [] => by simp [le]
 | b :: l => by
  have h1 := le_lt l
  have h2 := b.toNat_lt
  simp only [le, List.length_cons, Nat.pow_succ]
  omega
theorem num_lt (big : Bool) (l : List UInt8) : num big l < 256 ^ l.length := by
 cases big
 ·exact le_lt l
 ·have := le_lt l.reverse; simpa [num] using this
open Go Go.BigFrame
abbrev u8v (b : UInt8) : Value := .int .u8 (b.toNat : Int)
abbrev bytesV (l : List UInt8) : List Value := l.map u8v
def ImA (Γ : Env) (a : Option Addr) (l : List Value) : Prop := ∀ i x, l[i]? = some x → ∃ b o, a = some ⟨b, o, none⟩ ∧ Γ.cell b (o + i) = some x
def Im (Γ : Env) (v : Value) (n : Nat) (l : List Value) : Prop := ∃ a cap, v = .slice a n cap ∧ n ≤ cap ∧ ImA Γ a l
theorem ImA.mono {Γ Γ' : Env} (h : Γ.le Γ') {a l} (hb : ImA Γ a l) : ImA Γ' a l := fun i x e => by
 obtain ⟨b, o, h1, h2⟩ := hb i x e
 exact ⟨b, o, h1, h.cell h2⟩
theorem Im.mono {Γ Γ' : Env} (h : Γ.le Γ') {v n l} (hb : Im Γ v n l) : Im Γ' v n l := by
 obtain ⟨a, cap, h1, h2, h3⟩ := hb
 exact ⟨a, cap, h1, h2, h3.mono h⟩
theorem Byt.im {Γ : Env} {v : Value} {l : List UInt8} (h : Byt Γ v l) : Im Γ v l.length (bytesV l) := by
 obtain ⟨a, cap, h1, h2, h3⟩ := h
 refine ⟨a, cap, h1, h2, fun i x e => ?_⟩
 rw [List.getElem?_map] at e
 cases hx : l[i]? with
 | none => rw [hx] at e; cases e
 | some y => rw [hx] at e; injection e with e; subst e; exact h3 i y hx
theorem Im.byt {Γ : Env} {v : Value} {l : List UInt8} (h : Im Γ v l.length (bytesV l)) : Byt Γ v l := by
 obtain ⟨a, cap, h1, h2, h3⟩ := h
 exact ⟨a, cap, h1, h2, fun i x e => h3 i (u8v x) (by rw [List.getElem?_map, e]; rfl)⟩
section
variable {P : Program} {ops : Array Oper} {Q : Post} {n : Nat} {D : List Deferred} {R : Regs} {Γ : Env} {H : List Blk} {rest : List Oper}
variable {d : Nat} {ty : TypeId} {pos : String} {aft : Array Edge}
theorem Im.src {T : Tab} (hT : TabOk P T) {s : Nat} {tx e : TypeId} {u : Value} {m : Nat} {news : List Value} (ht : T.desc tx = some (.slice e)) (h : Im Γ u m news) (hl : news.length = m * s) (hs : 0 < s) (h1 : ∀ x ∈ news, x.oneCell' = true) :
  ∀ w, St Γ H w → Src P s tx u m news w := fun w hw => by
 obtain ⟨a, cap, rfl, hc, hA⟩ := h
 have hu := Tab.desc_ok hT ht
 cases news with
 | nil =>
  have hm : m = 0 := by
   rcases Nat.eq_zero_or_pos m with h | h
   ·exact h
   ·have := Nat.mul_pos h hs; simp at hl; omega
  subst hm
  cases a with
  | none => exact Src.ofNil w hu cap
  | some a => exact Src.ofSlice w hu a 0 cap [] (by simp) (by simp) (by simp)
 | cons x l =>
  obtain ⟨b, o, rfl, _⟩ := hA 0 x rfl
  refine Src.ofSlice w hu ⟨b, o, none⟩ m cap _ hl (fun j y e => ?_) h1
  obtain ⟨b', o', h3, h4⟩ := hA j y e
  injection h3 with h3; injection h3 with h3 h5; subst h3 h5
  rw [Addr.add_lit]; exact hw.icell h4
theorem one_bytesV (l : List UInt8) : ∀ x ∈ bytesV l, x.oneCell' = true := fun x h => by
 obtain ⟨y, _, rfl⟩ := List.mem_map.1 h; rfl
theorem Byt.src {T : Tab} (hT : TabOk P T) {tx e : TypeId} {u : Value} {l : List UInt8} (h : Byt Γ u l) (ht : T.desc tx = some (.slice e)) : ∀ w, St Γ H w → Src P 1 tx u l.length (bytesV l) w :=
 h.im.src hT ht (by simp) (by decide) (one_bytesV l)
theorem Ow.src {T : Tab} (hT : TabOk P T) {s : Nat} {tx e : TypeId} {u : Value} {m : Nat} {news : List Value} {Hs F : List Blk} (h : Ow s u m news Hs) (ht : T.desc tx = some (.slice e)) (hH : Tk H Hs F) (h1 : ∀ x ∈ news, x.oneCell' = true) :
  ∀ w, St Γ H w → Src P s tx u m news w := fun w hw => by
 have hu := Tab.desc_ok hT ht
 have hw' := hw.perm hH.perm
 cases h with
 | nil => exact Src.ofNil w hu 0
 | @row b cap _ _ sp T' fz g1 g2 g3 g4 =>
  refine Src.ofSlice w hu ⟨b, 0, none⟩ m cap news g2 (fun j y e => ?_) h1
  rw [Addr.add_lit, cell_of_heap (hw'.own b _ (List.mem_cons_self ..))]
  have hlt := (List.getElem?_eq_some_iff.1 e).1
  simp [List.getElem?_append_left hlt, e]
theorem Ow.lit {s b k : Nat} {l : List Value} {T : TypeId} (h : l.length = k * s) : Ow s (.slice (some ⟨b, 0, none⟩) k k) k l [(b, cel l T)] := by
 have := Ow.row (s := s) (b := b) (sp := []) (T := T) (fz := (0, 0)) (Nat.le_refl k) h (by simpa using h) (.inl (Nat.le_refl _))
 simpa using this
def fillS (s : Nat) (cells : List Value) : List (Nat × Value) → Option (List Value)
 | [] => some cells
 | (i, v) :: rest => bif Nat.beq (llen (vcells v)) s && Nat.ble (i * s + llen (vcells v)) (llen cells) then fillS s (lsplice (i * s) (vcells v) cells) rest else none
theorem fillS_ok {s : Nat} : ∀ {ps : List (Nat × Value)} {cells : List Value} {out : List Value}, fillS s cells ps = some out →
  Instr.fill (fun i => some (i * s, s)) cells.toArray ps = some out.toArray
 | [], cells, out, h => by injection h with h; subst h; rfl
 | (i, v) :: ps, cells, out, h => by
  simp only [fillS] at h
  cases hc : (Nat.beq (llen (vcells v)) s && Nat.ble (i * s + llen (vcells v)) (llen cells)) with
  | false => rw [hc] at h; cases h
  | true =>
   rw [hc] at h
   simp only [cond_true] at h
   rw [Bool.and_eq_true] at hc
   have h1 : llen (vcells v) = s := Nat.eq_of_beq_eq_true hc.1
   have h2 : i * s + llen (vcells v) ≤ llen cells := Nat.le_of_ble_eq_true hc.2
   rw [llen_eq] at h1 h2
   rw [llen_eq] at h2
   rw [← vcells_eq, Array.length_toList] at h1 h2
   rw [Instr.fill]
   dsimp only
   rw [if_neg (by simp [h1]; omega)]
   have := fillS_ok h
   rw [← this]
   congr 1
   have h3 := foldl_put (i * s) v.cells.toList 0 cells.toArray (by simp; omega)
   apply Array.ext'
   rw [← vcells_eq]
   simp only [Nat.add_zero] at h3
   rw [← h3]
   rw [← Array.foldl_toList]
   simp
def reps : Nat → List Value → List Value
 | 0, _ => []
 | k + 1, l => l ++ reps k l
theorem reps_length (l : List Value) : ∀ k, (reps k l).length = k * l.length
 | 0 => by simp [reps]
 | k + 1 => by rw [reps, List.length_append, reps_length l k, Nat.add_mul]; omega
theorem reps_get (l : List Value) (hl : 0 < l.length) : ∀ k i, i < k * l.length → (reps k l)[i]? = l[i % l.length]?
 | 0, i, h => by simp at h
 | k + 1, i, h => by
  rw [reps]
  by_cases hi : i < l.length
  ·rw [List.getElem?_append_left hi, Nat.mod_eq_of_lt hi]
  ·rw [List.getElem?_append_right (by omega), reps_get l hl k _ (by rw [Nat.add_mul] at h; omega), ← Nat.mod_eq_sub_mod (by omega)]
theorem zeros_eq (z : Array Value) (k s : Nat) (hz : z.size = s) (hs : 0 < s) : (Array.range (k * s)).map (z[· % z.size]!) = (reps k z.toList).toArray := by
 subst hz
 apply Array.ext'
 apply List.ext_getElem?
 intro i
 simp only [Array.toList_map, Array.toList_range]
 rw [List.getElem?_map]
 by_cases hi : i < k * z.size
 ·rw [List.getElem?_range hi, Option.map_some, reps_get _ (by simpa using hs) _ _ (by simpa using hi)]
  have : i % z.size < z.size := Nat.mod_lt _ hs
  simp [this]
 ·rw [List.getElem?_eq_none (by simpa using hi), List.getElem?_eq_none (by rw [reps_length]; simpa using hi)]; rfl
theorem WL.lit {T : Tab} (hT : TabOk P T) {t e : TypeId} {j : TI} {k : Nat} {ps : Array (Nat × Operand)} {vs : List (Nat × Value)} {l l' : List Value}
  (ht : T.desc t = some (.slice e)) (hj : T.get e = some j) (hz : Nat.beq (llen j.zc) j.size = true) (hs : Nat.blt 0 j.size = true) (hk : Nat.ble (k * j.size) 16777216 = true)
  (hv : evp R ps.toList = some vs) (hf : fillS j.size (reps k j.zc) vs = some l) (hl : Spine l l') (hd : Nat.blt d n = true)
  (K : ∀ b, WL P ops Q n D rest ((d, .slice (some ⟨b, 0, none⟩) k k) :: R) Γ ((b, cel l' e) :: H)) : WL P ops Q n D (⟨some d, .buildSlice t k ps, ty, pos, aft, none⟩ :: rest) R Γ H :=
 WL.value hd fun a w hw => by
  have hu := run_underlying' (hT.get hj) w
  have hfit := hT.get hj
  obtain ⟨_, i, hi, his, hib, hiz, hzc⟩ := hT.get hj
  have hzs : j.zero.cells.size = j.size := by
   rw [← Array.length_toList, vcells_eq, hzc, ← llen_eq]; exact Nat.eq_of_beq_eq_true hz
  have hs' : 0 < j.size := by simpa [Nat.blt_eq] using hs
  have hk' : ¬ k * j.size > 2 ^ 24 := by have := Nat.le_of_ble_eq_true hk; omega
  have hps : (ps.map fun x => (x.1, a.eval x.2)).toList = vs := by simpa using evp_eval hw.regs hv
  have hfl := fillS_ok hf
  have hze : (Array.range (k * j.size)).map (j.zero.cells[· % j.zero.cells.size]!) = (reps k j.zc).toArray := by
   rw [zeros_eq _ _ _ hzs hs', vcells_eq, hzc]
  refine ⟨_, _, ?_, Γ, _, hw.st.alloc (cel l e), hl.eq ▸ K w.heap.size⟩
  rcases Nat.eq_zero_or_pos k with h0 | h0
  ·subst h0
   have : l = [] ∧ True := by
    refine ⟨?_, trivial⟩
    simp only [reps] at hf
    cases vs with
    | nil => simpa [fillS] using hf.symm
    | cons x vs =>
     obtain ⟨q, y⟩ := x
     simp only [fillS, llen] at hf
     cases hc : (Nat.beq (llen (vcells y)) j.size && Nat.ble (q * j.size + llen (vcells y)) 0) with
     | false => rw [hc] at hf; cases hf
     | true =>
      rw [Bool.and_eq_true] at hc
      have h1 := Nat.eq_of_beq_eq_true hc.1
      have h2 := Nat.le_of_ble_eq_true hc.2
      omega
   obtain ⟨rfl, _⟩ := this
   have hfl' : Instr.fill (fun i => some (i * j.size, j.size)) #[] vs = some #[] := hfl
   simp only [execOp, Instr.buildSlice, Sem.run_bind, run_underlying (Tab.desc_ok hT ht), Result.andThen_ok, run_sizeOf' hfit, hps]
   simp [show Array.range 0 = #[] from rfl, hfl', newRow]
  ·have hp : ¬ k * j.size = 0 := by
    have := Nat.mul_pos h0 hs'; omega
   simp only [execOp, Instr.buildSlice, Sem.run_bind, run_underlying (Tab.desc_ok hT ht), Result.andThen_ok, run_sizeOf' hfit, hps, hk', if_false, hp, run_zeroValue' hfit, Sem.run_pure, hze, hfl]
   simp [newRow]
theorem WL.make {T : Tab} (hT : TabOk P T) {t e : TypeId} {j : TI} {bt : Nat} {zc : List Value} {x y : Operand} {kx ky : IntKind} {z : Int} (ht : T.desc t = some (.slice e)) (hj : T.get e = some j) (hz : Nat.beq (llen j.zc) j.size = true) (hs : Nat.blt 0 j.size = true)
  (hx : ev R x = some (.int kx z)) (hy : ev R y = some (.int ky z)) (hbt : T.bytes e = some bt) (hzc' : T.zc e = some zc) (h0 : 0 ≤ z) (hb : (bt : Int) * z ≤ 140737488355328) (h63 : z ≤ 140737488355328) (hd : Nat.blt d n = true)
  (K : ∀ b, WL P ops Q n D rest ((d, .slice (some ⟨b, 0, none⟩) z.toNat z.toNat) :: R) Γ ((b, cel (reps z.toNat zc) e) :: H)) : WL P ops Q n D (⟨some d, .makeSlice t x y, ty, pos, aft, none⟩ :: rest) R Γ H :=
 WL.value hd fun a w hw => by
  rw [Tab.bytes_get hj] at hbt; injection hbt with hbt; subst hbt
  rw [Tab.zc_get hj] at hzc'; injection hzc' with hzc'; subst hzc'
  obtain ⟨_, i, hi, his, hib, hiz, hzc⟩ := hT.get hj
  have hzs : j.zero.cells.size = j.size := by
   rw [← Array.length_toList, vcells_eq, hzc, ← llen_eq]; exact Nat.eq_of_beq_eq_true hz
  have hs' : 0 < j.size := by simpa [Nat.blt_eq] using hs
  refine ⟨_, _, ?_, Γ, _, hw.st.alloc (cel (reps z.toNat j.zc) e), K w.heap.size⟩
  have hr := run_make (P := P) w t e i j.zero (Tab.desc_ok hT ht) hi hiz kx ky z z h0 (Int.le_refl _) (by rw [hib]; omega) (by omega)
  have hm : madeCells j.zero.cells (z.toNat * i.size) = (reps z.toNat j.zc).toArray := by
   rw [his, ← hzc, ← vcells_eq, ← zeros_eq _ _ _ hzs hs']; rfl
  rw [hm] at hr
  simp only [execOp, ev_eval hw.regs hx, ev_eval hw.regs hy, Sem.run_bind, hr, Result.andThen_ok, Sem.run_pure]
end
end Go.Sl
namespace Go.Sl
open Go Go.BigFrame
set_option maxRecDepth 4000
section
variable {P : Program} {ops : Array Oper} {Q : Post} {n : Nat} {D : List Deferred} {R : Regs} {Γ : Env} {H : List Blk} {rest : List Oper}
variable {d : Nat} {ty : TypeId} {pos : String} {aft : Array Edge}
theorem WL.b2s {T : Tab} (hT : TabOk P T) {s t e : TypeId} {x : Operand} {v : Value} {l : List UInt8} (hx : ev R x = some v) (hs : T.desc s = some (.slice e)) (he : T.desc e = some (.int .u8)) (ht : T.desc t = some .string) (hb : Byt Γ v l) (hd : Nat.blt d n = true)
  (k : WL P ops Q n D rest ((d, .string ⟨l.toArray⟩) :: R) Γ H) : WL P ops Q n D (⟨some d, .convert s t x, ty, pos, aft, none⟩ :: rest) R Γ H :=
 WL.value hd fun a w hw => by
  refine ⟨_, w, ?_, Γ, H, hw.st, k⟩
  obtain ⟨a0, cap, rfl, hc, hA⟩ := hb
  have hus := Tab.desc_ok hT hs
  have hue := Tab.desc_ok hT he
  have hut := Tab.desc_ok hT ht
  have key : (convert s t (.slice a0 l.length cap)).run P w = .ok (.string ⟨l.toArray⟩) w := by
   cases l with
   | nil =>
    cases a0 with
    | none => exact run_convert_bytes_nil w s e hus hue 0 cap t hut
    | some a => exact run_convert_bytes_back w s t e a cap [] hus hue hut (fun j hj => absurd hj (Nat.not_lt_zero _))
   | cons y l =>
    obtain ⟨b, o, rfl, hcell⟩ := hA.cons
    refine run_convert_bytes_back w s t e ⟨b, o, none⟩ cap (y :: l) hus hue hut (fun j hj => ?_)
    rw [Addr.add_lit]
    exact hw.st.icell (hcell j _ (List.getElem?_eq_getElem hj))
  simp only [execOp, ev_eval hw.regs hx, Sem.run_bind, key, Result.andThen_ok, Sem.run_pure]
theorem WL.s2b {T : Tab} (hT : TabOk P T) {s t e : TypeId} {x : Operand} {str : ByteArray} (hx : ev R x = some (.string str)) (hs : T.desc s = some .string) (ht : T.desc t = some (.slice e)) (he : T.desc e = some (.int .u8)) (hd : Nat.blt d n = true)
  (k : ∀ v Hs, Ow 1 v str.size (bytesV str.data.toList) Hs → WL P ops Q n D rest ((d, v) :: R) Γ (Hs ++ H)) : WL P ops Q n D (⟨some d, .convert s t x, ty, pos, aft, none⟩ :: rest) R Γ H :=
 WL.value hd fun a w hw => by
  have hr := run_bytes_of_string (P := P) w s t e str (Tab.desc_ok hT hs) (Tab.desc_ok hT ht) (Tab.desc_ok hT he)
  have hge := grownCap_ge w str.size 0 e
  let sp : List Value := List.replicate (grownCap w str.size 0 e - str.size) (.int .u8 0)
  have hrow : bytesRow str (grownCap w str.size 0 e) = (bytesV str.data.toList ++ sp).toArray := by
   apply Array.ext'
   simp [bytesRow, sp]
  have hsz : (bytesV str.data.toList).length = str.size := by rw [List.length_map, Array.length_toList]; rfl
  have hl : (bytesV str.data.toList ++ sp).length = grownCap w str.size 0 e := by rw [List.length_append, hsz, List.length_replicate]; omega
  refine ⟨_, _, ?_, Γ, _, (hw.st.drew).alloc (celF (bytesV str.data.toList ++ sp) e (grownCap w str.size 0 e, grownCap w str.size 0 e + 1)), k (.slice (some ⟨w.heap.size, 0, none⟩) str.size (grownCap w str.size 0 e)) [_] (Ow.row (sp := sp) (T := e) (fz := (grownCap w str.size 0 e, grownCap w str.size 0 e + 1)) hge (by rw [hsz]; omega) (by rw [List.length_append] at hl; omega) (.inr (by rw [hl]; exact Nat.le_refl _)))⟩
  rw [hrow] at hr
  simp only [execOp, ev_eval hw.regs hx, Sem.run_bind, hr, Result.andThen_ok, Sem.run_pure]
  simp only [List.size_toArray, hl]
theorem WL.sidx {T : Tab} (hT : TabOk P T) {t : TypeId} {x y : Operand} {str : ByteArray} {kk : IntKind} {i : Int} {b : UInt8} (hx : ev R x = some (.string str)) (hy : ev R y = some (.int kk i)) (ht : T.desc t = some .string) (h0 : 0 ≤ i) (hb : str.data.toList[i.toNat]? = some b) (hd : Nat.blt d n = true)
  (k : WL P ops Q n D rest ((d, u8v b) :: R) Γ H) : WL P ops Q n D (⟨some d, .index t x y, ty, pos, aft, none⟩ :: rest) R Γ H :=
 WL.value hd fun a w hw => by
  refine ⟨_, w, ?_, Γ, H, hw.st, k⟩
  have hlt := (List.getElem?_eq_some_iff.1 hb).1
  have hlt' : i.toNat < str.size := by rw [Array.length_toList] at hlt; exact hlt
  have hr := run_index_string (P := P) w t str kk i (Tab.desc_ok hT ht)
  rw [dif_pos ⟨h0, by omega⟩] at hr
  have hval : str[i.toNat]'hlt' = b := by
   have := (List.getElem?_eq_some_iff.1 hb).2
   rw [← this]; rfl
  rw [hval] at hr
  simp only [execOp, ev_eval hw.regs hx, ev_eval hw.regs hy, Sem.run_bind, hr, Result.andThen_ok, Sem.run_pure]
def mfind (z : Int) : List MapEntry → Nat → Option (Nat × Value)
 | [], _ => none
 | e :: l, i => match e.key with
  | .int _ y => bif z == y then some (i, e.val) else mfind z l (i + 1)
  | _ => none
def keysOf (kk : IntKind) (l : List MapEntry) : Prop := ∀ e ∈ l, ∃ y, e.key = .int kk y
theorem findNow_int {kk : IntKind} {z : Int} : ∀ (l : List MapEntry) (i : Nat), keysOf kk l → Instr.findNow (.int kk) (.int kk z) l i = some (mfind z l i)
 | [], i, _ => rfl
 | e :: l, i, h => by
  obtain ⟨y, hy⟩ := h e (List.mem_cons_self ..)
  have ih := findNow_int (z := z) l (i + 1) (fun x hx => h x (List.mem_cons_of_mem _ hx))
  simp only [Instr.findNow, mfind, hy, Instr.sameNow, if_true]
  cases z == y <;> simp [ih]
theorem run_checkKey_int {T : Tab} (hT : TabOk P T) {kt : TypeId} {kk : IntKind} (hk : T.desc kt = some (.int kk)) (b : Bool) (v : Value) (w : World) : (Instr.checkKey b 10000 kt v).run P w = .ok () w := by
 unfold Instr.checkKey
 simp only [Sem.run_bind, run_underlying (Tab.desc_ok hT hk), Result.andThen_ok]
 rfl
theorem run_findKey_int {T : Tab} (hT : TabOk P T) {kt : TypeId} {kk : IntKind} (hk : T.desc kt = some (.int kk)) (z : Int) (l : List MapEntry) (h : keysOf kk l) (w : World) : (Instr.findKey kt (.int kk z) l).run P w = .ok (mfind z l 0) w := by
 unfold Instr.findKey
 simp only [Sem.run_bind, run_underlying (Tab.desc_ok hT hk), Result.andThen_ok, findNow_int l 0 h, Sem.run_pure]
def mapAt (Γ : Env) (H : List Blk) (r : Nat) (es : List MapEntry) (c : Nat) : Prop := Γ.imm r = some (.map es.toArray c) ∨ ∃ H', Pick H r (.map es.toArray c) H'
theorem mapAt.get {w : World} {r : Nat} {es : List MapEntry} {c : Nat} (h : mapAt Γ H r es c) (hw : St Γ H w) : w.heap[r]? = some (.map es.toArray c) := by
 rcases h with h | ⟨H', h⟩
 ·exact hw.imm _ _ h
 ·exact hw.own _ _ (h.perm.mem_iff.2 (List.mem_cons_self ..))
theorem run_getObj (r : Nat) (es : Array MapEntry) (c : Nat) (w : World) (h : w.heap[r]? = some (.map es c)) : (getObj r).run P w = .ok (.map es c) w := by
 simp [getObj, Sem.run, h]
def mres (z : Value) (ok : Bool) : Option (Nat × Value) → Value
 | some (_, v) => bif ok then .tuple #[v, .bool true] else v
 | none => bif ok then .tuple #[z, .bool false] else z
theorem WL.lookup {T : Tab} (hT : TabOk P T) {t kt et : TypeId} {x y : Operand} {r : Nat} {es : List MapEntry} {c : Nat} {kk : IntKind} {z : Int} {ok : Bool} {j : TI} {v : Value}
  (hx : ev R x = some (.map (some r))) (hy : ev R y = some (.int kk z)) (ht : T.desc t = some (.map kt et)) (hk : T.desc kt = some (.int kk)) (hj : T.get et = some j) (hm : mapAt Γ H r es c) (hes : keysOf kk es) (hv : mres j.zero ok (mfind z es 0) = v) (hd : Nat.blt d n = true)
  (k : WL P ops Q n D rest ((d, v) :: R) Γ H) :
  WL P ops Q n D (⟨some d, .lookup t x y ok, ty, pos, aft, none⟩ :: rest) R Γ H :=
 WL.value hd fun a w hw => by
  refine ⟨_, w, ?_, Γ, H, hw.st, k⟩
  subst hv
  simp only [execOp, ev_eval hw.regs hx, ev_eval hw.regs hy, Instr.lookup, Sem.run_bind, run_underlying (Tab.desc_ok hT ht), Result.andThen_ok, run_getObj r _ _ w (hm.get hw.st), Sem.run_pure,
   run_checkKey_int hT hk, run_findKey_int hT hk z es hes]
  cases mfind z es 0 with
  | none => cases ok <;> simp [run_zeroValue' (hT.get hj), mres]
  | some p => obtain ⟨q, v⟩ := p; cases ok <;> simp [mres]
theorem WL.makeMap {t : TypeId} (hd : Nat.blt d n = true)
  (k : ∀ r, WL P ops Q n D rest ((d, .map (some r)) :: R) Γ ((r, .map ([] : List MapEntry).toArray 0) :: H)) : WL P ops Q n D (⟨some d, .makeMap t none, ty, pos, aft, none⟩ :: rest) R Γ H :=
 WL.value hd fun a w hw => by
  refine ⟨_, _, ?_, Γ, _, hw.st.alloc (.map #[] 0), k w.heap.size⟩
  simp only [execOp, Option.map_none, Sem.run_bind]
  rfl
theorem run_setObj (r : Nat) (o : Obj) (es : Array MapEntry) (c : Nat) (w : World) (h : w.heap[r]? = some (.map es c)) : (setObj r o).run P w = .ok () { w with heap := w.heap.setIfInBounds r o } := by
 simp [setObj, Sem.run, h]
theorem WL.mapNew {T : Tab} (hT : TabOk P T) {t kt et : TypeId} {x y u : Operand} {r : Nat} {es : List MapEntry} {c : Nat} {kk : IntKind} {z : Int} {v : Value} {H' : List Blk}
  (hx : ev R x = some (.map (some r))) (hy : ev R y = some (.int kk z)) (hu : ev R u = some v) (ht : T.desc t = some (.map kt et)) (hk : T.desc kt = some (.int kk)) (hp : Pick H r (.map es.toArray c) H') (hes : keysOf kk es) (hf : mfind z es 0 = none)
  (k : WL P ops Q n D rest R Γ ((r, .map (es ++ [MapEntry.mk (.int kk z) v c]).toArray (c + 1)) :: H')) :
  WL P ops Q n D (⟨none, .mapUpdate t x y u, ty, pos, aft, none⟩ :: rest) R Γ H :=
 WL.skip_ fun a w hw => by
  have hst := hw.st.perm hp.perm
  have hb := hst.own r _ (List.mem_cons_self ..)
  have hlt := hst.lt (List.mem_cons_self ..)
  refine ⟨{ w with heap := w.heap.setIfInBounds r (.map (es ++ [MapEntry.mk (.int kk z) v c]).toArray (c + 1)) }, ?_, Γ, _, hst.put _ (fun q hq => by show (w.heap.setIfInBounds r _)[q]? = _; rw [Array.getElem?_setIfInBounds_ne (Ne.symm hq)]) (by show (w.heap.setIfInBounds r _)[r]? = _; rw [Array.getElem?_setIfInBounds_self]; simp [hlt]) rfl rfl rfl, k⟩
  simp only [execOp, ev_eval hw.regs hx, ev_eval hw.regs hy, ev_eval hw.regs hu, Instr.mapUpdate, Sem.run_bind, run_underlying (Tab.desc_ok hT ht), Result.andThen_ok, run_getObj r _ _ w hb, Sem.run_pure,
   run_checkKey_int hT hk, run_findKey_int hT hk z es hes, hf]
  simp [run_setObj (P := P) r _ _ _ w hb]
theorem Ow.keep {s : Nat} {v : Value} {k : Nat} {l : List Value} {Hs F : List Blk} (h : Ow s v k l Hs) (hH : Tk H Hs F) {w : World} (hw : St Γ H w) : ∃ Γ', Γ.le Γ' ∧ Im Γ' v k l ∧ St Γ' F w := by
 have hw' := hw.perm hH.perm
 cases h with
 | nil => exact ⟨Γ, Env.le.rfl' _, ⟨none, 0, rfl, Nat.le_refl _, fun i x e => by simp at e⟩, hw'⟩
 | @row b cap _ _ sp T' fz g1 g2 g3 g4 =>
  have hb : ((b, celF (l ++ sp) T' fz) :: F) = [(b, celF (l ++ sp) T' fz)] ++ F := rfl
  refine ⟨Γ.add b (celF (l ++ sp) T' fz), St.le_add hw', ⟨some ⟨b, 0, none⟩, cap, rfl, g1, fun i x e => ⟨b, 0, rfl, ?_⟩⟩, St.freeze hw'⟩
  have hlt := (List.getElem?_eq_some_iff.1 e).1
  simp only [Env.cell, Env.add, if_true]
  simp [List.getElem?_append_left hlt, e]
theorem WC.keep {c : Code} {s : Nat} {v : Value} {k : Nat} {l : List Value} {Hs F : List Blk} (h : Ow s v k l Hs) (hH : Tk H Hs F) (K : ∀ Γ', Γ.le Γ' → Im Γ' v k l → WC P c Q n D R Γ' F) : WC P c Q n D R Γ H :=
 ⟨fun a w hs => by
  obtain ⟨Γ', h1, h2, h3⟩ := h.keep hH hs.st
  exact (K Γ' h1 h2).go a w (hs.world h3)⟩
theorem WL.keep {s : Nat} {v : Value} {k : Nat} {l : List Value} {Hs F : List Blk} (h : Ow s v k l Hs) (hH : Tk H Hs F) (K : ∀ Γ', Γ.le Γ' → Im Γ' v k l → WL P ops Q n D rest R Γ' F) : WL P ops Q n D rest R Γ H :=
 ⟨fun a w hs => by
  obtain ⟨Γ', h1, h2, h3⟩ := h.keep hH hs.st
  exact (K Γ' h1 h2).go a w (hs.world h3)⟩
theorem WE.keep {e : Exit} {s : Nat} {v : Value} {k : Nat} {l : List Value} {Hs F : List Blk} (h : Ow s v k l Hs) (hH : Tk H Hs F) (K : ∀ Γ', Γ.le Γ' → Im Γ' v k l → WE Q e n D R Γ' F) : WE Q e n D R Γ H :=
 ⟨fun a w hs => by
  obtain ⟨Γ', h1, h2, h3⟩ := h.keep hH hs.st
  exact (K Γ' h1 h2).go a w (hs.world h3)⟩
theorem St.tk {Hs F : List Blk} (hH : Tk H Hs F) {w : World} (hw : St Γ H w) : St Γ F w := by
 have h : ∀ (Hs : List Blk), St Γ (Hs ++ F) w → St Γ F w := by
  intro Hs
  induction Hs with
  | nil => intro h; exact h
  | cons x Hs ih => intro h; exact ih (St.drop h)
 exact h Hs (hw.perm hH.perm)
theorem WL.lose {Hs F : List Blk} (hH : Tk H Hs F) (K : WL P ops Q n D rest R Γ F) : WL P ops Q n D rest R Γ H := ⟨fun a w hs => K.go a w (hs.world (St.tk hH hs.st))⟩
theorem WC.lose {c : Code} {Hs F : List Blk} (hH : Tk H Hs F) (K : WC P c Q n D R Γ F) : WC P c Q n D R Γ H := ⟨fun a w hs => K.go a w (hs.world (St.tk hH hs.st))⟩
theorem WE.lose {e : Exit} {Hs F : List Blk} (hH : Tk H Hs F) (K : WE Q e n D R Γ F) : WE Q e n D R Γ H := ⟨fun a w hs => K.go a w (hs.world (St.tk hH hs.st))⟩
theorem WC.loopR {α : Type} {c : Code} (Rf : α → Regs) (Γf : α → Env) (Hf : α → List Blk) (I : α → Prop) (μ : α → Nat) (x0 : α) (h0 : I x0)
  (hR : subR R (Rf x0)) (hH : ∀ w, St Γ H w → St (Γf x0) (Hf x0) w)
  (round : ∀ x, I x → WC P c (Exit.then (fun a w => ∃ y, I y ∧ μ y < μ x ∧ Sat n D (Rf y) (Γf y) (Hf y) a w) Q) n D (Rf x) (Γf x) (Hf x)) : WC P (.loop c) Q n D R Γ H :=
 WC.loop Rf Γf Hf I μ x0 h0 (fun a w hs => ⟨hs.defers, hs.size, fun i v e => hs.regs i v (subR_get hR i v e), hH w hs.st⟩) round
def LoopQ (I : Nat → Regs → Env → List Blk → Prop) (m n : Nat) (D : List Deferred) : Act → World → Prop :=
 fun a w => ∃ m' R' Γ' H', m' < m ∧ I m' R' Γ' H' ∧ Sat n D R' Γ' H' a w
theorem WC.loopE {c : Code} (I : Nat → Regs → Env → List Blk → Prop) {m0 : Nat} {R0 : Regs} {Γ0 : Env} {H0 : List Blk} (h0 : I m0 R0 Γ0 H0)
  (hR : subR R R0) (hH : ∀ w, St Γ H w → St Γ0 H0 w)
  (round : ∀ m R' Γ' H', I m R' Γ' H' → WC P c (Exit.then (LoopQ I m n D) Q) n D R' Γ' H') : WC P (.loop c) Q n D R Γ H :=
 WC.loop (α := Nat × Regs × Env × List Blk) (fun x => x.2.1) (fun x => x.2.2.1) (fun x => x.2.2.2) (fun x => I x.1 x.2.1 x.2.2.1 x.2.2.2) (fun x => x.1) (m0, R0, Γ0, H0) h0
  (fun a w hs => ⟨hs.defers, hs.size, fun i v e => hs.regs i v (subR_get hR i v e), hH w hs.st⟩)
  (fun x hI => ⟨fun a w hs => wp_mono ((round x.1 x.2.1 x.2.2.1 x.2.2.2 hI).go a w hs) fun e a w hq => by
   cases e with
   | normal =>
    obtain ⟨m', R', Γ', H', h1, h2, h3⟩ := hq
    exact ⟨(m', R', Γ', H'), h2, h1, h3⟩
   | _ => exact hq⟩)
theorem WE.again {I : Nat → Regs → Env → List Blk → Prop} {m m' : Nat} {R' : Regs} {Γ' : Env} {H' : List Blk} (hI : I m' R' Γ' H') (hlt : m' < m) (hR : subR R R') (hH : ∀ w, St Γ H w → St Γ' H' w) :
  WE (Exit.then (LoopQ I m n D) Q) .normal n D R Γ H :=
 ⟨fun a w hs => ⟨m', R', Γ', H', hlt, hI, hs.defers, hs.size, fun i v e => hs.regs i v (subR_get hR i v e), hH w hs.st⟩⟩
theorem evalP_shl {T : Tab} {t ty' : TypeId} {x y : Operand} {k k' : IntKind} {a b : Int} (hx : ev R x = some (.int k a)) (hy : ev R y = some (.int k' b)) (hb : 0 ≤ b) : evalP T R (.binOp .shl t x y ty') = some (.int k (k.wrap (a * 2 ^ min b.toNat k.bits))) := by
 simp only [evalP, hx, hy, bin]
 rw [decide_eq_false (by omega)]; rfl
theorem evalP_shr {T : Tab} {t ty' : TypeId} {x y : Operand} {k k' : IntKind} {a b : Int} (hx : ev R x = some (.int k a)) (hy : ev R y = some (.int k' b)) (hb : 0 ≤ b) : evalP T R (.binOp .shr t x y ty') = some (.int k (a.fdiv (2 ^ min b.toNat k.bits))) := by
 simp only [evalP, hx, hy, bin]
 rw [decide_eq_false (by omega)]; rfl
end
end Go.Sl
namespace Go.Sl
open Go Go.BigFrame
section
variable {P : Program} {ops : Array Oper} {Q : Post} {n : Nat} {D : List Deferred} {R : Regs} {Γ : Env} {H : List Blk} {rest : List Oper}
variable {d : Nat} {ty : TypeId} {pos : String} {aft : Array Edge}
theorem results_cell1 {fn : Func} {p : Tmp} {t : TypeId} (h : fn.results = #[.cell p t]) (tmps : Array Value) (w : World) :
  (results fn tmps).run P w = ((asAddr (tmps.getD p undef)).run P w).andThen fun a w₁ => (loadVar t a).run P w₁ := by
 simp only [results, h]
 simp [Sem.run_bind]
theorem load_own {T : Tab} (hT : TabOk P T) {t : TypeId} {b : Nat} {j : TI} {l : List Value} {tt : TypeId} {F : List Blk} (hj : T.get t = some j) (ha : TypeDesc.agg j.desc = true) (hp : Pick H b (cel l tt) F) (hl : llen l = j.size) {w : World} (hw : St Γ H w) :
  (loadVar t ⟨b, 0, none⟩).run P w = .ok (.agg l.toArray) w :=
 run_loadVarN hT hj ha hl (cellsAt_mk fun q v e => by
  rw [hw.cell hp, Nat.zero_add]; simpa using e)
variable {fn : Func} {Γ0 : Env} {post0 : Value → Env → List Blk → Prop}
theorem end_c {T : Tab} (hT : TabOk P T) {t b : Nat} {tt : TypeId} {j : TI} {l : List Value} {tb : TypeId} {F : List Blk} (hr : fn.results = #[.cell t tt]) (hv : rget R t = some (.pointer (some ⟨b, 0, none⟩)))
  (hj : T.get tt = some j) (ha : TypeDesc.agg j.desc = true) (hp : Pick H b (cel l tb) F) (hl : llen l = j.size) (hle : Γ0.le Γ) (h : post0 (.agg l.toArray) Γ F) : WE (bodyQ P fn Γ0 post0) .ret n [] R Γ H := ⟨fun a w hs => by
 refine bodyPost_ret (v := .agg l.toArray) ?_ hs.defers ⟨_, Γ, F, rfl, hle, (hs.st.perm hp.perm).drop, h⟩
 rw [results_cell1 hr]
 have h1 := hs.regs t _ hv
 have e : a.tmps.getD t undef = .pointer (some ⟨b, 0, none⟩) := by simp [Array.getD_eq_getD_getElem?, h1]
 rw [e]
 exact load_own hT hj ha hp hl hs.st⟩
theorem end_ct {T : Tab} (hT : TabOk P T) {t u b : Nat} {tt : TypeId} {j : TI} {l : List Value} {v : Value} {tb : TypeId} {F : List Blk} (hr : fn.results = #[.cell t tt, .tmp u]) (hv : rget R t = some (.pointer (some ⟨b, 0, none⟩))) (hu : rget R u = some v)
  (hj : T.get tt = some j) (ha : TypeDesc.agg j.desc = true) (hp : Pick H b (cel l tb) F) (hl : llen l = j.size) (hle : Γ0.le Γ) (h : post0 (.tuple #[.agg l.toArray, v]) Γ F) : WE (bodyQ P fn Γ0 post0) .ret n [] R Γ H := ⟨fun a w hs => by
 refine bodyPost_ret (v := .tuple #[.agg l.toArray, v]) ?_ hs.defers ⟨_, Γ, F, rfl, hle, (hs.st.perm hp.perm).drop, h⟩
 rw [results_cell_tmp hr]
 have h1 := hs.regs t _ hv
 have h2 := hs.regs u _ hu
 have e : a.tmps.getD t undef = .pointer (some ⟨b, 0, none⟩) := by simp [Array.getD_eq_getD_getElem?, h1]
 have e2 : a.tmps.getD u undef = v := by simp [Array.getD_eq_getD_getElem?, h2]
 rw [e, e2]
 show ((loadVar tt ⟨b, 0, none⟩).run P w).andThen _ = _
 rw [load_own hT hj ha hp hl hs.st]; rfl⟩
def Rd (Γ : Env) (H : List Blk) (b o : Nat) (v : Value) : Prop := Γ.cell b o = some v ∨ ∃ c t fz F, Pick H b (.cells c t fz) F ∧ c[o]? = some v
theorem Rd.get {b o : Nat} {v : Value} (h : Rd Γ H b o v) {w : World} (hw : St Γ H w) : w.cell? ⟨b, o, none⟩ = some v := by
 rcases h with h | ⟨c, t, fz, F, hp, e⟩
 ·exact hw.icell h
 ·rw [hw.cell hp, e]
theorem Rd.mono {Γ' : Env} (hle : Γ.le Γ') {b o : Nat} {v : Value} (h : Rd Γ H b o v) : Rd Γ' H b o v := by
 rcases h with h | h
 ·exact .inl (hle.cell h)
 ·exact .inr h
theorem Rd.cons {b o : Nat} {v : Value} {x : Blk} (h : Rd Γ H b o v) : Rd Γ (x :: H) b o v := by
 rcases h with h | ⟨c, t, fz, F, hp, e⟩
 ·exact .inl h
 ·exact .inr ⟨c, t, fz, _, .there hp, e⟩
theorem Rd.app {b o : Nat} {v : Value} {G : List Blk} (h : Rd Γ H b o v) : Rd Γ (G ++ H) b o v := by
 rcases h with h | ⟨c, t, fz, F, hp, e⟩
 ·exact .inl h
 ·exact .inr ⟨c, t, fz, _, .over hp, e⟩
theorem WL.ldR {T : Tab} (hT : TabOk P T) {t : TypeId} {x : Operand} {b o : Nat} {i : TI} {v : Value}
  (hx : ev R x = some (.pointer (some ⟨b, o, none⟩))) (hi : T.get t = some i) (ha : TypeDesc.agg i.desc = false) (hv : Rd Γ H b o v)
  (hd : Nat.blt d n = true) (k : WL P ops Q n D rest ((d, v) :: R) Γ H) : WL P ops Q n D (⟨some d, .load t x, ty, pos, aft, none⟩ :: rest) R Γ H :=
 WL.value hd fun _ w hs => ⟨v, w, exec_load hs.regs hx (run_loadVar1 hT hi ha (hv.get hs.st)) _ _, Γ, H, hs.st, k⟩
theorem WL.ldRA {T : Tab} (hT : TabOk P T) {t : TypeId} {x : Operand} {b o : Nat} {i : TI} {l : List Value}
  (hx : ev R x = some (.pointer (some ⟨b, o, none⟩))) (hi : T.get t = some i) (ha : TypeDesc.agg i.desc = true) (hv : ∀ k v, l[k]? = some v → Rd Γ H b (o + k) v) (hl : llen l = i.size)
  (hd : Nat.blt d n = true) (k : WL P ops Q n D rest ((d, .agg l.toArray) :: R) Γ H) : WL P ops Q n D (⟨some d, .load t x, ty, pos, aft, none⟩ :: rest) R Γ H :=
 WL.value hd fun _ w hs => ⟨_, w, exec_load hs.regs hx (run_loadVarN hT hi ha hl (cellsAt_mk fun q v e => (hv q v e).get hs.st)) _ _, Γ, H, hs.st, k⟩
theorem WL.stN {T : Tab} (hT : TabOk P T) {t : TypeId} {x y : Operand} {b o : Nat} {i : TI} {tt : TypeId} {fz : Nat × Nat} {l l' : List Value} {H' : List Blk} {v : Value}
  (hx : ev R x = some (.pointer (some ⟨b, o, none⟩))) (hy : ev R y = some v) (hi : T.get t = some i) (hp : Pick H b (celF l tt fz) H') (hfz : thawed fz l.length) (ho : o + (vcells v).length ≤ l.length) (hs : setAll o (vcells v) l = l')
  (hz : Nat.beq (llen (vcells v)) i.size = true) (hone : oneAll (vcells v) = true)
  (k : WL P ops Q n D rest R Γ ((b, celF l' tt fz) :: H')) : WL P ops Q n D (⟨none, .store t x y, ty, pos, aft, none⟩ :: rest) R Γ H :=
 WL.skip_ fun a w hw => by
  obtain ⟨w', hr, hst⟩ := run_storeCells (P := P) (b := b) (t := tt) (o := o) (vcells v) 0 l w hfz (hw.st.perm hp.perm) (by omega) (oneAll_mem hone)
  refine ⟨w', ?_, Γ, _, ?_, k⟩
  ·have hlen : v.cells.size = i.size := by rw [← Array.length_toList, vcells_eq, ← llen_eq]; exact Nat.eq_of_beq_eq_true hz
   simp only [execOp, ev_eval hw.regs hx, ev_eval hw.regs hy, Instr.storeAt, Instr.sureAddr, storeVar, Sem.run_bind, Sem.run_pure, Result.andThen_ok, run_sizeOf' (hT.get hi), hlen, ne_eq, not_true_eq_false, if_false, vcells_eq]
   rw [hr]; rfl
  ·rw [Nat.add_zero, hs] at hst; exact hst
theorem WL.extern {f : FuncId} {fs cs : Array Value} {e : Array Value → Sem Value} {x : Operand} {xs : Array Operand} {ats : Array TypeId} {us : List Value} {v : Value}
  (hx : ev R x = some (.func (.func f) fs cs)) (he : ∀ args w, (callFunc f args).run P w = ((e args).run P w).andThen fun v w' => .ok (.value v) w') (hxs : evs R xs.toList = some us) (hd : Nat.blt d n = true)
  (hv : ∀ w, St Γ H w → (e (fs.toList ++ us ++ cs.toList).toArray).run P w = .ok v w) (k : WL P ops Q n D rest ((d, v) :: R) Γ H) :
  WL P ops Q n D (⟨some d, .call { callee := .value x, args := xs, argTypes := ats }, ty, pos, aft, none⟩ :: rest) R Γ H :=
 WL.value hd fun a w hw => by
  refine ⟨v, w, ?_, Γ, H, hw.st, k⟩
  simp only [execOp, resolve, ev_eval hw.regs hx, Deferred.ofValue, evs_map hw.regs hxs, Sem.run_bind, Sem.run_pure, Result.andThen_ok, Go.invoke]
  have e1 : fs ++ us.toArray ++ cs = (fs.toList ++ us ++ cs.toList).toArray := by apply Array.ext'; simp
  rw [e1, he, hv w hw.st]
  rfl
theorem lget_pre (pre l : List Value) {o k : Nat} (h : o = pre.length + k) : lget (pre ++ l) o = lget l k := by
 rw [lget_eq, lget_eq, h, List.getElem?_append_right (by omega), Nat.add_sub_cancel_left]
theorem setAll_pre : ∀ (vs pre l : List Value) (o k : Nat), o = pre.length + k → setAll o vs (pre ++ l) = pre ++ setAll k vs l
 | [], _, _, _, _, _ => rfl
 | v :: vs, pre, l, o, k, h => by
  simp only [setAll]
  rw [h, List.set_append_right _ _ (by omega), Nat.add_sub_cancel_left]
  exact setAll_pre vs pre _ _ _ (by omega)
theorem WE.freeze {e : Exit} {b : Nat} {o : Obj} {H' : List Blk} (hp : Pick H b o H') (k : Γ.le (Γ.add b o) → WE Q e n D R (Γ.add b o) H') : WE Q e n D R Γ H :=
 ⟨fun a w hs => by
  have h1 := hs.st.perm hp.perm
  exact (k h1.le_add).go a w (hs.world h1.freeze)⟩
theorem run_method_ptr {t te : TypeId} {f : FuncId} {name : String} (hu : P.underlying t = some (.pointer te))
  (hm : ((P.info? t).bind fun i => (i.methods.find? (·.name == name)).map fun m => (m.path.isEmpty, m.func)) = some (true, some (f, true))) (k : Nat) (v : Value) (w : World) : (method (k + 1) t v name).run P w = .ok (f, v) w := by
 cases hi : P.info? t with
 | none => rw [hi] at hm; cases hm
 | some i =>
  rw [hi] at hm
  simp only [Option.bind_some] at hm
  cases hf : i.methods.find? (·.name == name) with
  | none => rw [hf] at hm; cases hm
  | some m =>
   rw [hf] at hm
   simp only [Option.map_some, Option.some.injEq, Prod.mk.injEq] at hm
   have hp : m.path.toList = [] := by simpa using hm.1
   simp only [method, typeInfo, Sem.run_bind, run_program, Result.andThen_ok, hi, Sem.run_pure, hf, hp, follow, hm.2, receiverAt, run_underlying hu, Place.get]
end
end Go.Sl
namespace Go.Sl
open Go Go.BigFrame
def gval (ops : Array Oper) (R : Regs) (j : Nat) : Option Bool :=
 match lget' ops.toList j with
 | some dj => match rget R dj with
  | some (.bool b) => some b
  | _ => none
 | none => none
where lget' : List Oper → Nat → Option Nat
 | [], _ => none
 | o :: _, 0 => o.dst
 | _ :: l, n + 1 => lget' l n
theorem gval_get : ∀ (l : List Oper) (j d : Nat), gval.lget' l j = some d → ∃ o, l[j]? = some o ∧ o.dst = some d
 | [], _, _, h => by cases h
 | o :: l, 0, d, h => ⟨o, rfl, h⟩
 | o :: l, j + 1, d, h => by simpa using gval_get l j d h
def runP (T : Tab) (n : Nat) (ops : Array Oper) : List Oper → Regs → Regs × List Oper
 | [], R => (R, [])
 | ⟨dst, op, ty, pos, aft, g⟩ :: l, R =>
  match dst with
  | none => (R, ⟨dst, op, ty, pos, aft, g⟩ :: l)
  | some d =>
   bif Nat.blt d n then
    match g with
    | none => match evalP T R op with
     | some v => runP T n ops l ((d, v) :: R)
     | none => (R, ⟨dst, op, ty, pos, aft, g⟩ :: l)
    | some (j, want) => match gval ops R j, want with
     | some true, true | some false, false => match evalP T R op with
      | some v => runP T n ops l ((d, v) :: R)
      | none => (R, ⟨dst, op, ty, pos, aft, g⟩ :: l)
     | some true, false | some false, true => runP T n ops l ((d, undef) :: R)
     | none, _ => (R, ⟨dst, op, ty, pos, aft, g⟩ :: l)
   else (R, ⟨dst, op, ty, pos, aft, g⟩ :: l)
inductive Sm : List Blk → List Blk → Prop where
 | refl {H} : Sm H H
 | pick {H b o H' H2} : Pick H b o H' → Sm H' H2 → Sm H ((b, o) :: H2)
 | drop {x H H2} : Sm H H2 → Sm (x :: H) H2
 | dropA {G H H2} : Sm H H2 → Sm (G ++ H) H2
theorem Sm.st {Γ : Env} {H H2 : List Blk} (h : Sm H H2) : ∃ L, H.Perm (L ++ H2) := by
 induction h with
 | refl => exact ⟨[], List.Perm.refl _⟩
 | pick p _ ih =>
  obtain ⟨L, hL⟩ := ih
  exact ⟨L, p.perm.trans ((List.Perm.cons _ hL).trans List.perm_middle.symm)⟩
 | @drop x H H2 _ ih =>
  obtain ⟨L, hL⟩ := ih
  exact ⟨x :: L, List.Perm.cons _ hL⟩
 | @dropA G H H2 _ ih =>
  obtain ⟨L, hL⟩ := ih
  exact ⟨G ++ L, by rw [List.append_assoc]; exact List.Perm.append_left _ hL⟩
theorem Sm.go {Γ : Env} {H H2 : List Blk} (h : Sm H H2) : ∀ w, St Γ H w → St Γ H2 w := fun w hw => by
 obtain ⟨L, hL⟩ := h.st (Γ := Γ)
 have h2 := hw.perm hL
 clear hw hL h
 induction L with
 | nil => exact h2
 | cons x L ih => exact ih (St.drop h2)
section
variable {P : Program} {Q : Post} {n : Nat} {D : List Deferred} {Γ : Env} {H : List Blk}
theorem runP_ok {T : Tab} (hT : TabOk P T) {ops : Array Oper} : ∀ {l : List Oper} {R R' : Regs} {l' : List Oper}, runP T n ops l R = (R', l') → WL P ops Q n D l' R' Γ H → WL P ops Q n D l R Γ H
 | [], R, R', l', h, k => by injection h with h1 h2; subst h1 h2; exact k
 | ⟨dst, op, ty, pos, aft, g⟩ :: l, R, R', l', h, k => by
  have stay : (R, (⟨dst, op, ty, pos, aft, g⟩ : Oper) :: l) = (R', l') → WL P ops Q n D (⟨dst, op, ty, pos, aft, g⟩ :: l) R Γ H := fun e => by
   injection e with h1 h2; subst h1 h2; exact k
  cases dst with
  | none => exact stay h
  | some d =>
   simp only [runP] at h
   cases hd : Nat.blt d n with
   | false => rw [hd] at h; exact stay h
   | true =>
    rw [hd] at h
    simp only [cond_true] at h
    have ev1 : (match evalP T R op with | some v => runP T n ops l ((d, v) :: R) | none => (R, (⟨some d, op, ty, pos, aft, g⟩ : Oper) :: l)) = (R', l') → (WL P ops Q n D (⟨some d, op, ty, pos, aft, none⟩ :: l) R Γ H → WL P ops Q n D (⟨some d, op, ty, pos, aft, g⟩ :: l) R Γ H) → WL P ops Q n D (⟨some d, op, ty, pos, aft, g⟩ :: l) R Γ H := fun e hg => by
     cases hv : evalP T R op with
     | none => rw [hv] at e; exact stay e
     | some v => rw [hv] at e; exact hg (WL.pure hT hv hd (runP_ok hT e k))
    cases g with
    | none => exact ev1 h id
    | some jw =>
     obtain ⟨j, want⟩ := jw
     simp only at h
     cases hgv : gval ops R j with
     | none => rw [hgv] at h; exact stay h
     | some b =>
      rw [hgv] at h
      have hgv' := hgv
      unfold gval at hgv'
      split at hgv'
      ·next dj hdj =>
       split at hgv'
       ·next b' hr =>
        injection hgv' with hb; subst hb
        obtain ⟨oj, ho1, ho2⟩ := gval_get _ _ _ hdj
        have ho1' : ops[j]? = some oj := by simpa using ho1
        cases b' <;> cases want <;> simp only at h
        ·exact ev1 h (WL.yes ho1' ho2 hr)
        ·exact WL.no ho1' ho2 hr rfl hd (runP_ok hT h k)
        ·exact WL.no ho1' ho2 hr rfl hd (runP_ok hT h k)
        ·exact ev1 h (WL.yes ho1' ho2 hr)
       ·cases hgv'
      ·cases hgv'
variable {R R' : Regs}
theorem WL.run {T : Tab} (hT : TabOk P T) {ops : Array Oper} {o : Oper} {l l' : List Oper} (h : runP T n ops (o :: l) R = (R', l')) (hne : Nat.blt l'.length (l.length + 1) = true) (k : WL P ops Q n D l' R' Γ H) : WL P ops Q n D (o :: l) R Γ H := runP_ok hT h k
theorem WC.regRun {T : Tab} (hT : TabOk P T) {id : Nat} {l : List Oper} (h : runP T n l.toArray l R = (R', [])) (k : WE Q .normal n D R' Γ H) : WC P (.region id l.toArray false) Q n D R Γ H :=
 WC.region (runP_ok hT h (WL.nil k))
theorem WC.seqRun {T : Tab} (hT : TabOk P T) {id : Nat} {l : List Oper} {y : Code} (h : runP T n l.toArray l R = (R', [])) (k : WC P y Q n D R' Γ H) : WC P (.seq (.region id l.toArray false) y) Q n D R Γ H :=
 WC.seq (WC.regRun hT h (WE.then_ k))
theorem WL.drop {ops : Array Oper} {l : List Oper} {b : Nat} {o : Obj} {H' : List Blk} (hp : Pick H b o H') (k : WL P ops Q n D l R Γ H') : WL P ops Q n D l R Γ H := ⟨fun a w hs => k.go a w (hs.world (hs.st.perm hp.perm).drop)⟩
theorem WL.g {ops : Array Oper} {l : List Oper} (h : WL P ops Q n D l R Γ H) : WL P ops Q n D l R Γ H := h
section
variable {ops : Array Oper} {rest : List Oper} {d : Nat} {ty : TypeId} {pos : String} {aft : Array Edge} {dst : Option Tmp} {op : Op}
theorem WL.gLoad {t : TypeId} {x : Operand} (h : WL P ops Q n D (⟨some d, .load t x, ty, pos, aft, none⟩ :: rest) R Γ H) : WL P ops Q n D (⟨some d, .load t x, ty, pos, aft, none⟩ :: rest) R Γ H := h
theorem WL.gStore {t : TypeId} {x y : Operand} (h : WL P ops Q n D (⟨none, .store t x y, ty, pos, aft, none⟩ :: rest) R Γ H) : WL P ops Q n D (⟨none, .store t x y, ty, pos, aft, none⟩ :: rest) R Γ H := h
theorem WL.gIdx {t : TypeId} {x y : Operand} (h : WL P ops Q n D (⟨some d, .indexAddr t x y, ty, pos, aft, none⟩ :: rest) R Γ H) : WL P ops Q n D (⟨some d, .indexAddr t x y, ty, pos, aft, none⟩ :: rest) R Γ H := h
theorem WL.gBuild {t : TypeId} {ps : Array (Nat × Operand)} (h : WL P ops Q n D (⟨some d, .build t ps, ty, pos, aft, none⟩ :: rest) R Γ H) : WL P ops Q n D (⟨some d, .build t ps, ty, pos, aft, none⟩ :: rest) R Γ H := h
theorem WL.gSlice {t : TypeId} {x : Operand} {a b c : Option Operand} (h : WL P ops Q n D (⟨some d, .slice t x a b c, ty, pos, aft, none⟩ :: rest) R Γ H) : WL P ops Q n D (⟨some d, .slice t x a b c, ty, pos, aft, none⟩ :: rest) R Γ H := h
theorem WL.gBin {o : BinOp} {t u : TypeId} {x y : Operand} (h : WL P ops Q n D (⟨some d, .binOp o t x y u, ty, pos, aft, none⟩ :: rest) R Γ H) : WL P ops Q n D (⟨some d, .binOp o t x y u, ty, pos, aft, none⟩ :: rest) R Γ H := h
theorem WL.gGuard {g : Nat × Bool} (h : WL P ops Q n D (⟨dst, op, ty, pos, aft, some g⟩ :: rest) R Γ H) : WL P ops Q n D (⟨dst, op, ty, pos, aft, some g⟩ :: rest) R Γ H := h
end
theorem WC.g {c : Code} (h : WC P c Q n D R Γ H) : WC P c Q n D R Γ H := h
theorem WE.g {e : Exit} (h : WE Q e n D R Γ H) : WE Q e n D R Γ H := h
theorem WD.g {ops : Array Oper} {L : Nat} {Γs : Env} {Hs : List Blk} {p : Plan} (h : WD P ops Q L Γs Hs n D p R Γ H) : WD P ops Q L Γs Hs n D p R Γ H := h
end
end Go.Sl
namespace Go.Sl
open Go Go.BigFrame
def oget : List Oper → Nat → Option Oper
 | [], _ => none
 | o :: _, 0 => some o
 | _ :: l, n + 1 => oget l n
theorem oget_eq : ∀ (l : List Oper) (n : Nat), oget l n = l[n]?
 | [], _ => rfl
 | _ :: _, 0 => rfl
 | _ :: l, n + 1 => by simpa [oget] using oget_eq l n
def runD (T : Tab) (n : Nat) (ops : Array Oper) : Plan → Regs → Regs × Plan
 | .take i p, R =>
  match oget ops.toList i with
  | some ⟨some d, op, _, _, _, g⟩ =>
   bif Nat.blt d n then
    match g with
    | none => match evalP T R op with
     | some v => runD T n ops p ((d, v) :: R)
     | none => (R, .take i p)
    | some (j, want) => match gval ops R j, want with
     | some true, true | some false, false => match evalP T R op with
      | some v => runD T n ops p ((d, v) :: R)
      | none => (R, .take i p)
     | some true, false | some false, true => runD T n ops p ((d, undef) :: R)
     | none, _ => (R, .take i p)
   else (R, .take i p)
  | _ => (R, .take i p)
 | p, R => (R, p)
section
variable {P : Program} {ops : Array Oper} {Q : Post} {L n : Nat} {D : List Deferred} {R R' : Regs} {Γ Γs : Env} {H Hs : List Blk}
theorem gval_spec {j : Nat} {b : Bool} (h : gval ops R j = some b) : ∃ oj dj, ops[j]? = some oj ∧ oj.dst = some dj ∧ rget R dj = some (.bool b) := by
 unfold gval at h
 split at h
 ·next dj hdj =>
  split at h
  ·next b' hr =>
   injection h with hb; subst hb
   obtain ⟨oj, ho1, ho2⟩ := gval_get _ _ _ hdj
   exact ⟨oj, dj, by simpa using ho1, ho2, hr⟩
  ·cases h
 ·cases h
theorem runD_ok {T : Tab} (hT : TabOk P T) (hnp : NP Q) : ∀ {p p' : Plan} {R R' : Regs}, runD T n ops p R = (R', p') → WD P ops Q L Γs Hs n D p' R' Γ H → WD P ops Q L Γs Hs n D p R Γ H
 | .done, p', R, R', h, k => by injection h with h1 h2; subst h1 h2; exact k
 | .one i p, p', R, R', h, k => by injection h with h1 h2; subst h1 h2; exact k
 | .two i j p q, p', R, R', h, k => by injection h with h1 h2; subst h1 h2; exact k
 | .take i p, p', R, R', h, k => by
  have stay : (R, Plan.take i p) = (R', p') → WD P ops Q L Γs Hs n D (.take i p) R Γ H := fun e => by
   injection e with h1 h2; subst h1 h2; exact k
  simp only [runD] at h
  cases ho : oget ops.toList i with
  | none => rw [ho] at h; exact stay h
  | some o =>
   rw [ho] at h
   obtain ⟨dst, op, ty, pos, aft, g⟩ := o
   have hi : ops[i]? = some ⟨dst, op, ty, pos, aft, g⟩ := by rw [oget_eq] at ho; simpa using ho
   cases dst with
   | none => exact stay h
   | some d =>
    simp only at h
    cases hd : Nat.blt d n with
    | false => rw [hd] at h; exact stay h
    | true =>
     rw [hd] at h
     simp only [cond_true] at h
     cases g with
     | none =>
      simp only at h
      cases hv : evalP T R op with
      | none => rw [hv] at h; exact stay h
      | some v => rw [hv] at h; exact WD.pure hT hi hnp hd hv (runD_ok hT hnp h k)
     | some jw =>
      obtain ⟨j, want⟩ := jw
      simp only at h
      cases hgv : gval ops R j with
      | none => rw [hgv] at h; exact stay h
      | some b =>
       rw [hgv] at h
       obtain ⟨oj, dj, h1, h2, h3⟩ := gval_spec hgv
       cases b <;> cases want <;> simp only at h
       ·cases hv : evalP T R op with
        | none => rw [hv] at h; exact stay h
        | some v => rw [hv] at h; exact WD.pureG hT hi hnp hd h1 h2 h3 hv (runD_ok hT hnp h k)
       ·exact WD.no hi hnp hd h1 h2 h3 rfl (runD_ok hT hnp h k)
       ·exact WD.no hi hnp hd h1 h2 h3 rfl (runD_ok hT hnp h k)
       ·cases hv : evalP T R op with
        | none => rw [hv] at h; exact stay h
        | some v => rw [hv] at h; exact WD.pureG hT hi hnp hd h1 h2 h3 hv (runD_ok hT hnp h k)
def Plan.len : Plan → Nat
 | .take _ p => p.len + 1
 | _ => 0
theorem WD.run {T : Tab} (hT : TabOk P T) (hnp : NP Q) {i : Nat} {p p' : Plan} (h : runD T n ops (.take i p) R = (R', p')) (hne : Nat.blt p'.len (p.len + 1) = true) (k : WD P ops Q L Γs Hs n D p' R' Γ H) : WD P ops Q L Γs Hs n D (.take i p) R Γ H := runD_ok hT hnp h k
structure WT (P : Program) (ops : Array Oper) (Q : Post) (L : Nat) (Γs : Env) (Hs : List Blk) (n : Nat) (D : List Deferred) (i : Nat) (o : Oper) (p : Plan) (R : Regs) (Γ : Env) (H : List Blk) : Prop where
 go : ops[i]? = some o → WD P ops Q L Γs Hs n D (.take i p) R Γ H
theorem WD.at_ {i : Nat} {o : Oper} {p : Plan} (hi : oget ops.toList i = some o) (h : WT P ops Q L Γs Hs n D i o p R Γ H) : WD P ops Q L Γs Hs n D (.take i p) R Γ H :=
 h.go (by rw [oget_eq] at hi; simpa using hi)
theorem WD.gTake {i : Nat} {p : Plan} (h : WD P ops Q L Γs Hs n D (.take i p) R Γ H) : WD P ops Q L Γs Hs n D (.take i p) R Γ H := h
variable {i d : Nat} {p : Plan} {ty : TypeId} {pos : String} {aft : Array Edge}
theorem WT.load {t : TypeId} {x : Operand} {b o : Nat} {v : Value} (hnp : NP Q) (hd : Nat.blt d n = true)
  (hx : ev R x = some (.pointer (some ⟨b, o, none⟩))) (hl : Ld P Γs Hs t b o v)
  (k : WD P ops Q L Γs Hs n D p ((d, v) :: R) Γ H) : WT P ops Q L Γs Hs n D i ⟨some d, .load t x, ty, pos, aft, none⟩ p R Γ H := ⟨fun hi => WD.load hi hnp hd hx hl k⟩
theorem WT.loadG {t : TypeId} {x : Operand} {b o : Nat} {v : Value} {j : Nat} {want : Bool} (hnp : NP Q) (hd : Nat.blt d n = true)
  (hg : gval ops R j = some want) (hx : ev R x = some (.pointer (some ⟨b, o, none⟩))) (hl : Ld P Γs Hs t b o v)
  (k : WD P ops Q L Γs Hs n D p ((d, v) :: R) Γ H) : WT P ops Q L Γs Hs n D i ⟨some d, .load t x, ty, pos, aft, some (j, want)⟩ p R Γ H := ⟨fun hi => by
 obtain ⟨oj, dj, h1, h2, h3⟩ := gval_spec hg
 exact WD.loadG hi hnp hd h1 h2 h3 hx hl k⟩
theorem WT.idx {T : Tab} (hT : TabOk P T) {t e : TypeId} {x ix : Operand} {b o len cap s : Nat} {kk : IntKind} {z : Int} (hnp : NP Q) (hd : Nat.blt d n = true)
  (hx : ev R x = some (.slice (some ⟨b, o, none⟩) len cap)) (hz : ev R ix = some (.int kk z)) (ht : T.desc t = some (.slice e)) (hs : T.size e = some s) (h0 : 0 ≤ z) (h1 : z < len)
  (k : WD P ops Q L Γs Hs n D p ((d, .pointer (some ⟨b, o + z.toNat * s, none⟩)) :: R) Γ H) : WT P ops Q L Γs Hs n D i ⟨some d, .indexAddr t x ix, ty, pos, aft, none⟩ p R Γ H := ⟨fun hi => WD.idx hT hi hnp hd hx hz ht hs h0 h1 k⟩
theorem WT.idxG {T : Tab} (hT : TabOk P T) {t e : TypeId} {x ix : Operand} {b o len cap s : Nat} {kk : IntKind} {z : Int} {j : Nat} {want : Bool} (hnp : NP Q) (hd : Nat.blt d n = true)
  (hg : gval ops R j = some want) (hx : ev R x = some (.slice (some ⟨b, o, none⟩) len cap)) (hz : ev R ix = some (.int kk z)) (ht : T.desc t = some (.slice e)) (hs : T.size e = some s) (h0 : 0 ≤ z) (h1 : z < len)
  (k : WD P ops Q L Γs Hs n D p ((d, .pointer (some ⟨b, o + z.toNat * s, none⟩)) :: R) Γ H) : WT P ops Q L Γs Hs n D i ⟨some d, .indexAddr t x ix, ty, pos, aft, some (j, want)⟩ p R Γ H := ⟨fun hi => by
 obtain ⟨oj, dj, g1, g2, g3⟩ := gval_spec hg
 exact WD.idxG hT hi hnp hd g1 g2 g3 hx hz ht hs h0 h1 k⟩
theorem WT.slLo {T : Tab} (hT : TabOk P T) {t e : TypeId} {x y : Operand} {a0 : Option Addr} {len cap s : Nat} {kk : IntKind} {li : Int} (hnp : NP Q) (hd : Nat.blt d n = true)
  (hx : ev R x = some (.slice a0 len cap)) (ht : T.desc t = some (.slice e)) (hs : T.size e = some s) (hy : ev R y = some (.int kk li)) (h0 : 0 ≤ li) (h1 : li ≤ len) (h2 : len ≤ cap)
  (k : WD P ops Q L Γs Hs n D p ((d, .slice (saddr a0 cap li.toNat s) (len - li.toNat) (cap - li.toNat)) :: R) Γ H) : WT P ops Q L Γs Hs n D i ⟨some d, .slice t x (some y) none none, ty, pos, aft, none⟩ p R Γ H := ⟨fun hi => WD.slLo hT hi hnp hd hx ht hs hy h0 h1 h2 k⟩
theorem WT.build {T : Tab} (hT : TabOk P T) {t : TypeId} {ps : Array (Nat × Operand)} {l l' : List Value} (hnp : NP Q) (hd : Nat.blt d n = true) (hv : evalB T R t ps = some l) (hl : Spine l l')
  (k : WD P ops Q L Γs Hs n D p ((d, .agg l'.toArray) :: R) Γ H) : WT P ops Q L Γs Hs n D i ⟨some d, .build t ps, ty, pos, aft, none⟩ p R Γ H := ⟨fun hi => WD.build hT hi hnp hd hv hl k⟩
theorem WT.pure {T : Tab} (hT : TabOk P T) {op : Op} {v : Value} (hnp : NP Q) (hd : Nat.blt d n = true) (hv : evalP T R op = some v)
  (k : WD P ops Q L Γs Hs n D p ((d, v) :: R) Γ H) : WT P ops Q L Γs Hs n D i ⟨some d, op, ty, pos, aft, none⟩ p R Γ H := ⟨fun hi => WD.pure hT hi hnp hd hv k⟩
variable {g : Option (Nat × Bool)} {t : TypeId} {x y : Operand}
theorem WT.gLoad (h : WT P ops Q L Γs Hs n D i ⟨some d, .load t x, ty, pos, aft, g⟩ p R Γ H) : WT P ops Q L Γs Hs n D i ⟨some d, .load t x, ty, pos, aft, g⟩ p R Γ H := h
theorem WT.gIdx (h : WT P ops Q L Γs Hs n D i ⟨some d, .indexAddr t x y, ty, pos, aft, g⟩ p R Γ H) : WT P ops Q L Γs Hs n D i ⟨some d, .indexAddr t x y, ty, pos, aft, g⟩ p R Γ H := h
theorem WT.gSlice {a b c : Option Operand} (h : WT P ops Q L Γs Hs n D i ⟨some d, .slice t x a b c, ty, pos, aft, g⟩ p R Γ H) : WT P ops Q L Γs Hs n D i ⟨some d, .slice t x a b c, ty, pos, aft, g⟩ p R Γ H := h
theorem WT.gBuild {ps : Array (Nat × Operand)} (h : WT P ops Q L Γs Hs n D i ⟨some d, .build t ps, ty, pos, aft, g⟩ p R Γ H) : WT P ops Q L Γs Hs n D i ⟨some d, .build t ps, ty, pos, aft, g⟩ p R Γ H := h
end
end Go.Sl
