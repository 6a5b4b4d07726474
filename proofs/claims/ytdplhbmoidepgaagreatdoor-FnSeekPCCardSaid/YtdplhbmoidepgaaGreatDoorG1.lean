/- How what is given reads: arrays of structs that never turn. The sizes' guards (zzFits). Forms and their classes: class, sizeOf, offsetSize, IsText, IsTop, IsAttr. IsText, IsTop, IsAttr. isLight, After. IsUnit. -/
import Derived.Test.YtdplhbmoidepgaaGreatDoorE1
namespace Go.Sl
open Go
section
variable {P : Program} {ops : Array Oper} {Q : Post} {n : Nat} {D : List Deferred} {R : Regs} {Γ : Env} {H : List Blk} {rest : List Oper}
variable {d : Nat} {ty : TypeId} {pos : String} {aft : Array Edge}
/-- A guard that did not come up itself. -/
theorem WL.noU {op : Op} {j dj : Nat} {want : Bool} {oj : Oper} (hj : ops[j]? = some oj) (hdj : oj.dst = some dj) (hr : rget R dj = some undef)
    (hd : Nat.blt d n = true) (k : WL P ops Q n D rest ((d, undef) :: R) Γ H) : WL P ops Q n D (⟨some d, op, ty, pos, aft, some (j, want)⟩ :: rest) R Γ H := by
  refine ⟨fun a w hs => ?_⟩
  have hy : ¬ Region.wanted ⟨some d, op, ty, pos, aft, some (j, want)⟩ (yielded ops a.tmps) = true := by
    have := hs.regs dj _ hr
    simp [Region.wanted, yielded, hj, hdj, this, undef]
  unfold wpList
  rw [if_neg hy]
  exact k.go _ _ (hs.put hd undef hs.st)
variable {L i : Nat} {p : Plan} {Γs : Env} {Hs : List Blk}
theorem WT.pureG {T : Tab} (hT : TabOk P T) {op : Op} {v : Value} {j : Nat} {want : Bool} (hnp : NP Q) (hd : Nat.blt d n = true) (hg : gval ops R j = some want) (hv : evalP T R op = some v)
    (k : WD P ops Q L Γs Hs n D p ((d, v) :: R) Γ H) : WT P ops Q L Γs Hs n D i ⟨some d, op, ty, pos, aft, some (j, want)⟩ p R Γ H := ⟨fun hi => by
  obtain ⟨oj, dj, h1, h2, h3⟩ := gval_spec hg
  exact WD.pureG hT hi hnp hd h1 h2 h3 hv k⟩
theorem WT.noG {op : Op} {j : Nat} {want b : Bool} (hnp : NP Q) (hd : Nat.blt d n = true) (hg : gval ops R j = some b) (hb : (b == want) = false)
    (k : WD P ops Q L Γs Hs n D p ((d, undef) :: R) Γ H) : WT P ops Q L Γs Hs n D i ⟨some d, op, ty, pos, aft, some (j, want)⟩ p R Γ H := ⟨fun hi => by
  obtain ⟨oj, dj, h1, h2, h3⟩ := gval_spec hg
  exact WD.no hi hnp hd h1 h2 h3 hb k⟩
end
end Go.Sl
namespace Go.Proofs.YtdplhbmoidepgaaGreatDoor
open Go Go.Sl
set_option maxRecDepth 10000
set_option maxHeartbeats 4000000
theorem gz_ {p q : Prop} (k : q) (h : Wrp q → p := by intro k; (repeat (first | (refine WC.g ?_; first | refine WC.seqRun tab_ok rfl ?_ | refine WC.condF rfl rfl ?_ | refine WC.condT rfl rfl ?_ | refine WC.seq ?_ | refine WC.regRun tab_ok rfl ?_ | refine WC.region ?_ | refine WC.ret ?_ | refine WC.exit ?_ | refine WC.skip ?_ | refine WC.block ?_) | (refine WL.g ?_; first | refine WL.nil ?_ | refine WL.run tab_ok rfl rfl ?_ | (refine WL.gLoad ?_; first | refine WL.ld tab_ok rfl rfl rfl pk_ rfl rfl ?_ | refine WL.ldA tab_ok rfl rfl rfl pk_ (by (repeat (first | apply Cut.nil | apply Cut.take | apply Cut.drop)); (first | done | fail)) rfl ?_ | refine WL.ldI tab_ok rfl rfl rfl (by assumption) rfl ?_ | refine WL.ldR tab_ok rfl rfl rfl (by (repeat (first | assumption | apply Rd.cons)); (first | done | fail)) rfl ?_ | refine WL.ldAI tab_ok rfl rfl rfl (by assumption) rfl rfl ?_) | (refine WL.gStore ?_; refine WL.st tab_ok rfl rfl rfl pk_ (by (repeat (first | apply Spl.nil | apply Spl.put | apply Spl.skip)); (first | done | fail)) rfl rfl ?_) | (refine WL.gIdx ?_; refine WL.idx tab_ok rfl rfl rfl rfl (by omega) (by omega) rfl ?_) | (refine WL.gBuild ?_; refine WL.build tab_ok rfl spi_ rfl ?_) | (refine WL.gSlice ?_; first | refine WL.slLo tab_ok rfl rfl rfl rfl (by omega) (by omega) (by omega) rfl ?_ | refine WL.slHi tab_ok rfl rfl rfl rfl (by omega) (by omega) rfl ?_ | refine WL.slLH tab_ok rfl rfl rfl rfl rfl (by omega) (by omega) (by omega) rfl ?_) | (refine WL.gBin ?_; first | refine WL.pure tab_ok (evalP_shl rfl rfl (by omega)) rfl ?_ | refine WL.pure tab_ok (evalP_shr rfl rfl (by omega)) rfl ?_) | refine WL.pure tab_ok rfl rfl ?_ | (refine WL.gGuard ?_; first | refine WL.yes rfl rfl rfl ?_ | refine WL.no rfl rfl rfl rfl rfl ?_ | refine WL.noU rfl rfl rfl rfl ?_)) | (refine WE.g ?_; first | refine WE.then_ ?_ | refine WE.thenX rfl ?_ | refine WE.block_n ?_ | refine WE.block_x ?_ | refine WE.block_y rfl ?_ | refine WE.block_r ?_ | apply WE.drawnL | (apply WE.drawn; exact (by first | exact Env.le.rfl' _ | assumption); exact (by (repeat (first | exact trivial | refine ⟨⟨_, pk_⟩, ?_⟩ | exact subH_self _ | apply subH_cons)); (first | done | fail)))))); exact k.out) : p := h ⟨k⟩
theorem dz_ {p q : Prop} (k : q) (h : Wrp q → p := by intro k; (repeat (first | (refine WD.g ?_; first | refine WD.one rfl ?_ | refine WD.done ?_ | (refine WD.gTake ?_; first | refine WD.run tab_ok (by (repeat (first | exact NP.body | refine NP.then_ ?_ | refine NP.block ?_)); (first | done | fail)) rfl rfl ?_ | (refine WD.at_ rfl ?_; (first | (refine WT.gLoad ?_; first | refine WT.load (by (repeat (first | exact NP.body | refine NP.then_ ?_ | refine NP.block ?_)); (first | done | fail)) rfl rfl (by first | exact Ld.own tab_ok rfl rfl pk_ rfl | exact Ld.ownA tab_ok rfl rfl pk_ (by (repeat (first | apply Cut.nil | apply Cut.take | apply Cut.drop)); (first | done | fail)) | exact Ld.imm tab_ok rfl rfl (by assumption) | exact Ld.rd tab_ok rfl rfl (by (repeat (first | assumption | apply Rd.cons)); (first | done | fail)) | exact Ld.immA tab_ok rfl rfl (by assumption) rfl) ?_ | refine WT.loadG (by (repeat (first | exact NP.body | refine NP.then_ ?_ | refine NP.block ?_)); (first | done | fail)) rfl rfl rfl (by first | exact Ld.own tab_ok rfl rfl pk_ rfl | exact Ld.ownA tab_ok rfl rfl pk_ (by (repeat (first | apply Cut.nil | apply Cut.take | apply Cut.drop)); (first | done | fail)) | exact Ld.imm tab_ok rfl rfl (by assumption) | exact Ld.rd tab_ok rfl rfl (by (repeat (first | assumption | apply Rd.cons)); (first | done | fail)) | exact Ld.immA tab_ok rfl rfl (by assumption) rfl) ?_) | (refine WT.gIdx ?_; first | refine WT.idx tab_ok (by (repeat (first | exact NP.body | refine NP.then_ ?_ | refine NP.block ?_)); (first | done | fail)) rfl rfl rfl rfl rfl (by omega) (by omega) ?_ | refine WT.idxG tab_ok (by (repeat (first | exact NP.body | refine NP.then_ ?_ | refine NP.block ?_)); (first | done | fail)) rfl rfl rfl rfl rfl rfl (by omega) (by omega) ?_) | (refine WT.gSlice ?_; refine WT.slLo tab_ok (by (repeat (first | exact NP.body | refine NP.then_ ?_ | refine NP.block ?_)); (first | done | fail)) rfl rfl rfl rfl rfl (by omega) (by omega) (by omega) ?_) | (refine WT.gBuild ?_; refine WT.build tab_ok (by (repeat (first | exact NP.body | refine NP.then_ ?_ | refine NP.block ?_)); (first | done | fail)) rfl rfl spi_ ?_) | refine WT.pure tab_ok (by (repeat (first | exact NP.body | refine NP.then_ ?_ | refine NP.block ?_)); (first | done | fail)) rfl rfl ?_ | refine WT.pureG tab_ok (by (repeat (first | exact NP.body | refine NP.then_ ?_ | refine NP.block ?_)); (first | done | fail)) rfl rfl rfl ?_ | refine WT.noG (by (repeat (first | exact NP.body | refine NP.then_ ?_ | refine NP.block ?_)); (first | done | fail)) rfl rfl rfl ?_)))) | (refine WL.g ?_; first | refine WL.nil ?_ | refine WL.run tab_ok rfl rfl ?_ | (refine WL.gLoad ?_; first | refine WL.ld tab_ok rfl rfl rfl pk_ rfl rfl ?_ | refine WL.ldA tab_ok rfl rfl rfl pk_ (by (repeat (first | apply Cut.nil | apply Cut.take | apply Cut.drop)); (first | done | fail)) rfl ?_ | refine WL.ldI tab_ok rfl rfl rfl (by assumption) rfl ?_ | refine WL.ldR tab_ok rfl rfl rfl (by (repeat (first | assumption | apply Rd.cons)); (first | done | fail)) rfl ?_ | refine WL.ldAI tab_ok rfl rfl rfl (by assumption) rfl rfl ?_) | (refine WL.gStore ?_; refine WL.st tab_ok rfl rfl rfl pk_ (by (repeat (first | apply Spl.nil | apply Spl.put | apply Spl.skip)); (first | done | fail)) rfl rfl ?_) | (refine WL.gIdx ?_; refine WL.idx tab_ok rfl rfl rfl rfl (by omega) (by omega) rfl ?_) | (refine WL.gBuild ?_; refine WL.build tab_ok rfl spi_ rfl ?_) | (refine WL.gSlice ?_; first | refine WL.slLo tab_ok rfl rfl rfl rfl (by omega) (by omega) (by omega) rfl ?_ | refine WL.slHi tab_ok rfl rfl rfl rfl (by omega) (by omega) rfl ?_ | refine WL.slLH tab_ok rfl rfl rfl rfl rfl (by omega) (by omega) (by omega) rfl ?_) | (refine WL.gBin ?_; first | refine WL.pure tab_ok (evalP_shl rfl rfl (by omega)) rfl ?_ | refine WL.pure tab_ok (evalP_shr rfl rfl (by omega)) rfl ?_) | refine WL.pure tab_ok rfl rfl ?_ | (refine WL.gGuard ?_; first | refine WL.yes rfl rfl rfl ?_ | refine WL.no rfl rfl rfl rfl rfl ?_ | refine WL.noU rfl rfl rfl rfl ?_)) | (refine WE.g ?_; first | refine WE.then_ ?_ | refine WE.thenX rfl ?_ | refine WE.block_n ?_ | refine WE.block_x ?_ | refine WE.block_y rfl ?_ | refine WE.block_r ?_ | apply WE.drawnL | (apply WE.drawn; exact (by first | exact Env.le.rfl' _ | assumption); exact (by (repeat (first | exact trivial | refine ⟨⟨_, pk_⟩, ?_⟩ | exact subH_self _ | apply subH_cons)); (first | done | fail)))))); exact k.out) : p := h ⟨k⟩

/-- Cells of one behind the other. -/
def LisC {α : Type} (P : α → List Value → Prop) : List α → List Value → Prop
  | [], cs => cs = []
  | x :: xs, cs => ∃ c1 c2, cs = c1 ++ c2 ∧ P x c1 ∧ LisC P xs c2
theorem LisC.imp {α : Type} {P P' : α → List Value → Prop} (h : ∀ x c, P x c → P' x c) : ∀ {xs : List α} {cs : List Value}, LisC P xs cs → LisC P' xs cs
  | [], _, h => h
  | _ :: _, _, ⟨c1, c2, h1, h2, h3⟩ => ⟨c1, c2, h1, h _ _ h2, LisC.imp h h3⟩
theorem LisC.length {α : Type} {P : α → List Value → Prop} {w : Nat} (hw : ∀ x c, P x c → c.length = w) : ∀ {xs : List α} {cs : List Value}, LisC P xs cs → cs.length = xs.length * w
  | [], _, h => by cases h; simp
  | _ :: xs, _, ⟨c1, c2, h1, h2, h3⟩ => by rw [h1, List.length_append, hw _ _ h2, LisC.length hw h3, List.length_cons, Nat.succ_mul]; omega
theorem LisC.append {α : Type} {P : α → List Value → Prop} : ∀ {xs ys : List α} {cs ds : List Value}, LisC P xs cs → LisC P ys ds → LisC P (xs ++ ys) (cs ++ ds)
  | [], _, _, _, h, k => by cases h; exact k
  | _ :: _, _, _, _, ⟨c1, c2, h1, h2, h3⟩, k => ⟨c1, _, by rw [h1, List.append_assoc], h2, LisC.append h3 k⟩
theorem LisC.one {α : Type} {P : α → List Value → Prop} {x : α} {c : List Value} (h : P x c) : LisC P [x] c := ⟨c, [], by simp, h, rfl⟩
theorem LisC.get {α : Type} {P : α → List Value → Prop} {w : Nat} (hw : ∀ x c, P x c → c.length = w) : ∀ {xs : List α} {cs : List Value} {i : Nat} {x : α}, LisC P xs cs → xs[i]? = some x → ∃ p c q, cs = p ++ (c ++ q) ∧ p.length = i * w ∧ P x c
  | [], _, _, _, _, e => by simp at e
  | y :: xs, cs, 0, x, ⟨c1, c2, h1, h2, h3⟩, e => by
    injection e with e; subst e
    exact ⟨[], c1, c2, h1, by simp, h2⟩
  | y :: xs, cs, i + 1, x, ⟨c1, c2, h1, h2, h3⟩, e => by
    obtain ⟨p, c, q, g1, g2, g3⟩ := LisC.get hw h3 (i := i) (by simpa using e)
    exact ⟨c1 ++ p, c, q, by rw [h1, g1, List.append_assoc], by rw [List.length_append, hw _ _ h2, g2, Nat.succ_mul]; omega, g3⟩
/-- A slice of things that never turns. -/
def Arr {α : Type} (Γ : Env) (P : α → List Value → Prop) (v : Value) (xs : List α) : Prop := ∃ a cap cells, v = .slice a xs.length cap ∧ xs.length ≤ cap ∧ ImA Γ a cells ∧ LisC P xs cells
theorem elemA {α : Type} {Γ : Env} {P : α → List Value → Prop} {w : Nat} {a : Option Addr} {cells : List Value} {xs : List α} {i : Nat} {x : α} (hA : ImA Γ a cells) (hL : LisC P xs cells) (hw : ∀ x c, P x c → c.length = w) (h0 : 0 < w) (hx : xs[i]? = some x) :
    ∃ b o c, a = some ⟨b, o, none⟩ ∧ P x c ∧ cellsAt (Γ.cell b) (o + ((i : Nat) : Int).toNat * w) c := by
  obtain ⟨p, c, q, h1, h2, h3⟩ := hL.get hw hx
  have hcw := hw _ _ h3
  have hget : ∀ k v, c[k]? = some v → cells[i * w + k]? = some v := fun k v hk => by
    rw [h1, List.getElem?_append_right (by omega), ← h2, Nat.add_sub_cancel_left, List.getElem?_append_left (List.getElem?_eq_some_iff.1 hk).1]; exact hk
  obtain ⟨v0, hv0⟩ : ∃ v, c[0]? = some v := ⟨_, List.getElem?_eq_getElem (by omega)⟩
  obtain ⟨b, o, g1, g2⟩ := hA _ _ (hget 0 _ hv0)
  refine ⟨b, o, c, g1, h3, cellsAt_mk fun k v hk => ?_⟩
  obtain ⟨b', o', g3, g4⟩ := hA _ _ (hget k v hk)
  rw [g1] at g3; injection g3 with g3; injection g3 with g3 g5
  subst g3 g5
  rw [Int.toNat_natCast, Nat.add_assoc]; exact g4

/-! ### What is given -/
def PieC (x : Pie) (c : List Value) : Prop := c = [.int .i64 x.kind, .int .u64 (x.a : Int), .int .u64 (x.b : Int)]
def SpnC (Γ : Env) (x : Spn) (c : List Value) : Prop := ∃ v, c = [.int .u64 (x.low : Int), .int .u64 (x.high : Int), .bool x.len, .bool x.lst, v] ∧ Arr Γ PieC v x.pies
def AttC (Γ : Env) (x : Att) (c : List Value) : Prop := ∃ v, c = [.int .i64 x.attr, .int .i64 x.form, .bool x.ind, .int .u64 (x.n : Int), .string x.s, v] ∧ Byt Γ v x.b ∧ x.n < 18446744073709551616
def NodC (Γ : Env) (x : Nod) (c : List Value) : Prop := ∃ v, c = [.int .i64 x.tag, .bool x.ch, .bool x.sib, v] ∧ Arr Γ (AttC Γ) v x.atts
def UniC (Γ : Env) (x : Uni) (c : List Value) : Prop := ∃ v, c = [.int .i64 x.vers, .bool x.wide, .int .i64 x.size, v] ∧ Arr Γ (NodC Γ) v x.nods
theorem PieC.len {x : Pie} {c : List Value} (h : PieC x c) : c.length = 3 := by cases h; rfl
theorem SpnC.len {Γ : Env} {x : Spn} {c : List Value} (h : SpnC Γ x c) : c.length = 5 := by obtain ⟨v, rfl, -⟩ := h; rfl
theorem AttC.len {Γ : Env} {x : Att} {c : List Value} (h : AttC Γ x c) : c.length = 6 := by obtain ⟨v, rfl, -⟩ := h; rfl
theorem NodC.len {Γ : Env} {x : Nod} {c : List Value} (h : NodC Γ x c) : c.length = 4 := by obtain ⟨v, rfl, -⟩ := h; rfl
theorem UniC.len {Γ : Env} {x : Uni} {c : List Value} (h : UniC Γ x c) : c.length = 4 := by obtain ⟨v, rfl, -⟩ := h; rfl
theorem Arr.mono {α : Type} {Γ Γ' : Env} {P P' : α → List Value → Prop} (hle : Γ.le Γ') (hP : ∀ x c, P x c → P' x c) {v : Value} {xs : List α} (h : Arr Γ P v xs) : Arr Γ' P' v xs := by
  obtain ⟨a, cap, cells, h1, h2, h3, h4⟩ := h
  exact ⟨a, cap, cells, h1, h2, h3.mono hle, h4.imp hP⟩
theorem SpnC.mono {Γ Γ' : Env} (hle : Γ.le Γ') {x : Spn} {c : List Value} (h : SpnC Γ x c) : SpnC Γ' x c := by
  obtain ⟨v, h1, h2⟩ := h; exact ⟨v, h1, h2.mono hle fun _ _ h => h⟩
theorem AttC.mono {Γ Γ' : Env} (hle : Γ.le Γ') {x : Att} {c : List Value} (h : AttC Γ x c) : AttC Γ' x c := by
  obtain ⟨v, h1, h2, h3⟩ := h; exact ⟨v, h1, h2.mono hle, h3⟩
theorem NodC.mono {Γ Γ' : Env} (hle : Γ.le Γ') {x : Nod} {c : List Value} (h : NodC Γ x c) : NodC Γ' x c := by
  obtain ⟨v, h1, h2⟩ := h; exact ⟨v, h1, h2.mono hle fun _ _ h => h.mono hle⟩
theorem UniC.mono {Γ Γ' : Env} (hle : Γ.le Γ') {x : Uni} {c : List Value} (h : UniC Γ x c) : UniC Γ' x c := by
  obtain ⟨v, h1, h2⟩ := h; exact ⟨v, h1, h2.mono hle fun _ _ h => h.mono hle⟩
end Go.Proofs.YtdplhbmoidepgaaGreatDoor
namespace Go.Proofs.YtdplhbmoidepgaaGreatDoor
open Go Go.Sl
set_option maxRecDepth 10000
set_option maxHeartbeats 40000000

def FitA (a : Att) : Prop := a.s.size ≤ 2147483647 ∧ a.b.length ≤ 2147483647
def FitN (x : Nod) : Prop := x.atts.length ≤ 2147483647 ∧ ∀ a ∈ x.atts, FitA a
def FitU (u : Uni) : Prop := u.nods.length ≤ 2147483647 ∧ ∀ x ∈ u.nods, FitN x
def FitS (x : Spn) : Prop := x.pies.length ≤ 2147483647
theorem mem_drop_of {α : Type} {xs : List α} {i : Nat} {Q : α → Prop} {x : α} (hx : xs[i]? = some x) (h : ∀ y ∈ xs.take i, Q y) (hq : Q x) : ∀ y ∈ xs.take (i + 1), Q y := fun y hy => by
  rw [List.take_add_one, hx] at hy
  rcases List.mem_append.1 hy with hy | hy
  · exact h y hy
  · rw [Option.toList, List.mem_singleton] at hy; subst hy; exact hq

theorem zzFits14_ok {Γ : Env} {H : List Blk} {x : Att} {c : List Value} (h : AttC Γ x c) :
   Spc Tryz.prog 121 #[.agg c.toArray] Γ H (fun v Γ' H' => Γ = Γ' ∧ H = H' ∧ ∃ b, v = .bool b ∧ (b = true → FitA x)) := by
  obtain ⟨vb, rfl, ⟨ab, cb, rfl, -, -⟩, -⟩ := h
  refine Spc.body1 Tryz.func121 rfl Tryz.ntmps121 rfl ?_
  refine WC.seq ?_
  refine WC.region ?_
  (refine WL.box rfl spi_ rfl ?_; intro b)
  refine gz_ ?_
  cases h1 : decide ((2147483647 : Int) < (x.s.size : Int)) with
  | true =>
    refine gz_ ?_
    refine WE.drop (b := b) pk_ ?_
    exact end_1 rfl rfl (Env.le.rfl' _) ⟨rfl, rfl, false, rfl, fun h => by cases h⟩
  | false =>
    refine gz_ ?_
    cases h2 : decide ((2147483647 : Int) < (x.b.length : Int)) with
    | true =>
      refine gz_ ?_
      refine WE.drop (b := b) pk_ ?_
      exact end_1 rfl rfl (Env.le.rfl' _) ⟨rfl, rfl, false, rfl, fun h => by cases h⟩
    | false =>
      refine gz_ ?_
      refine WE.drop (b := b) pk_ ?_
      have h1' := of_decide_eq_false h1
      have h2' := of_decide_eq_false h2
      exact end_1 rfl rfl (Env.le.rfl' _) ⟨rfl, rfl, true, rfl, fun _ => ⟨by omega, by omega⟩⟩
theorem zzFits8_ok {Γ : Env} {H : List Blk} {x : Spn} {c : List Value} (h : SpnC Γ x c) :
   Spc Tryz.prog 20 #[.agg c.toArray] Γ H (fun v Γ' H' => Γ = Γ' ∧ H = H' ∧ ∃ b, v = .bool b ∧ (b = true → FitS x)) := by
  obtain ⟨vb, rfl, ab, cb, cells, rfl, -, -⟩ := h
  refine Spc.body1 Tryz.func20 rfl Tryz.ntmps20 rfl ?_
  refine WC.seq ?_
  refine WC.region ?_
  (refine WL.box rfl spi_ rfl ?_; intro b)
  refine gz_ ?_
  cases h2 : decide ((2147483647 : Int) < (x.pies.length : Int)) with
  | true =>
    refine gz_ ?_
    refine WE.drop (b := b) pk_ ?_
    exact end_1 rfl rfl (Env.le.rfl' _) ⟨rfl, rfl, false, rfl, fun h => by cases h⟩
  | false =>
    refine gz_ ?_
    refine WE.drop (b := b) pk_ ?_
    have h2' := of_decide_eq_false h2
    exact end_1 rfl rfl (Env.le.rfl' _) ⟨rfl, rfl, true, rfl, fun _ => by unfold FitS; omega⟩
theorem zzFits13_ok {Γ : Env} {H : List Blk} {xs : List Att} {v : Value} (h : Arr Γ (AttC Γ) v xs) :
   Spc Tryz.prog 98 #[v] Γ H (fun v Γ' H' => Γ = Γ' ∧ H = H' ∧ ∃ b, v = .bool b ∧ (b = true → xs.length ≤ 2147483647 ∧ ∀ x ∈ xs, FitA x)) := by
  obtain ⟨a, cap, cells, rfl, hcap, hA, hL⟩ := h
  refine Spc.body1 Tryz.func98 rfl Tryz.ntmps98 rfl ?_
  refine gz_ ?_
  cases h1 : decide ((2147483647 : Int) < (xs.length : Int)) with
  | true =>
    refine gz_ ?_
    exact end_1 rfl rfl (Env.le.rfl' _) ⟨rfl, rfl, false, rfl, fun h => by cases h⟩
  | false =>
    have h1' := of_decide_eq_false h1
    refine gz_ ?_
    refine WC.loopE (fun m R' Γ' H' => ∃ i, R' = [(8, .slice a xs.length cap), (9, .int .i64 (xs.length : Int)), (10, .int .i64 ((i : Nat) : Int))] ∧ Γ = Γ' ∧ H' = H ∧ m = xs.length - i ∧ i ≤ xs.length ∧ ∀ y ∈ xs.take i, FitA y)
      ⟨0, rfl, rfl, rfl, rfl, Nat.zero_le _, fun y hy => by simp at hy⟩ sr_ (fun _ h => h) ?_
    rintro m R' Γ' H' ⟨i, rfl, rfl, rfl, rfl, hi, hf⟩
    rcases Nat.lt_or_ge i xs.length with hlt | hge
    case inr =>
      have ei : i = xs.length := by omega
      subst ei
      refine gz_ ?_
      refine WC.condF rfl (decide_eq_false (by omega)) ?_
      refine gz_ ?_
      rw [List.take_length] at hf
      exact end_1 rfl rfl (Env.le.rfl' _) ⟨rfl, rfl, true, rfl, fun _ => ⟨by omega, hf⟩⟩
    case inl =>
      obtain ⟨x, hx⟩ : ∃ x, xs[i]? = some x := ⟨_, List.getElem?_eq_getElem hlt⟩
      obtain ⟨bb, oo, c, rfl, hP, hc⟩ := elemA hA hL (fun _ _ h => h.len) (w := 6) (by decide) hx
      have hP' := hP
      obtain ⟨vb, rfl, ⟨ab, cb, rfl, -, -⟩, -⟩ := hP
      refine gz_ ?_
      refine WC.condT rfl (by first | rfl | exact decide_eq_true (by omega) | (simp; (first | done | fail)) | (simp; omega)) ?_
      refine gz_ ?_
      (refine WL.alloc tab_ok rfl rfl ?_; intro b4)
      refine gz_ ?_
      refine WL.call rfl Tryz.call121 rfl rfl (by exact (zzFits14_ok hP')) ?_
      rintro _ _ _ - ⟨rfl, rfl, bl, rfl, hbl⟩
      refine gz_ ?_
      cases bl with
      | false =>
        refine gz_ ?_
        refine WE.drop (b := b4) pk_ ?_
        exact end_1 rfl rfl (Env.le.rfl' _) ⟨rfl, rfl, false, rfl, fun h => by cases h⟩
      | true =>
        refine gz_ ?_
        have hwi : IntKind.i64.wrap ((i : Int) + 1) = (i : Int) + 1 := w_i64 (by omega) (by omega)
        exact WE.again ⟨i + 1, rfl, rfl, rfl, rfl, hlt, mem_drop_of hx hf (hbl rfl)⟩ (by omega) ⟨rfl, rfl, congrArg (fun z => some (Value.int .i64 z)) hwi, trivial⟩ sm_
theorem zzFits12_ok {Γ : Env} {H : List Blk} {x : Nod} {c : List Value} (h : NodC Γ x c) :
   Spc Tryz.prog 73 #[.agg c.toArray] Γ H (fun v Γ' H' => Γ = Γ' ∧ H = H' ∧ ∃ b, v = .bool b ∧ (b = true → FitN x)) := by
  obtain ⟨vb, rfl, hA⟩ := h
  have hA' := hA
  obtain ⟨ab, cb, cells, rfl, -, -⟩ := hA
  refine Spc.body1 Tryz.func73 rfl Tryz.ntmps73 rfl ?_
  refine WC.seq ?_
  refine WC.region ?_
  (refine WL.box rfl spi_ rfl ?_; intro b)
  refine gz_ ?_
  refine WL.call rfl Tryz.call98 rfl rfl (by exact (zzFits13_ok hA')) ?_
  rintro _ _ _ - ⟨rfl, rfl, bl, rfl, hbl⟩
  refine gz_ ?_
  cases bl with
  | false =>
    refine gz_ ?_
    refine WE.drop (b := b) pk_ ?_
    exact end_1 rfl rfl (Env.le.rfl' _) ⟨rfl, rfl, false, rfl, fun h => by cases h⟩
  | true =>
    refine gz_ ?_
    refine WE.drop (b := b) pk_ ?_
    exact end_1 rfl rfl (Env.le.rfl' _) ⟨rfl, rfl, true, rfl, fun _ => hbl rfl⟩
theorem zzFits11_ok {Γ : Env} {H : List Blk} {xs : List Nod} {v : Value} (h : Arr Γ (NodC Γ) v xs) :
   Spc Tryz.prog 41 #[v] Γ H (fun v Γ' H' => Γ = Γ' ∧ H = H' ∧ ∃ b, v = .bool b ∧ (b = true → xs.length ≤ 2147483647 ∧ ∀ x ∈ xs, FitN x)) := by
  obtain ⟨a, cap, cells, rfl, hcap, hA, hL⟩ := h
  refine Spc.body1 Tryz.func41 rfl Tryz.ntmps41 rfl ?_
  refine gz_ ?_
  cases h1 : decide ((2147483647 : Int) < (xs.length : Int)) with
  | true =>
    refine gz_ ?_
    exact end_1 rfl rfl (Env.le.rfl' _) ⟨rfl, rfl, false, rfl, fun h => by cases h⟩
  | false =>
    have h1' := of_decide_eq_false h1
    refine gz_ ?_
    refine WC.loopE (fun m R' Γ' H' => ∃ i, R' = [(8, .slice a xs.length cap), (9, .int .i64 (xs.length : Int)), (10, .int .i64 ((i : Nat) : Int))] ∧ Γ = Γ' ∧ H' = H ∧ m = xs.length - i ∧ i ≤ xs.length ∧ ∀ y ∈ xs.take i, FitN y)
      ⟨0, rfl, rfl, rfl, rfl, Nat.zero_le _, fun y hy => by simp at hy⟩ sr_ (fun _ h => h) ?_
    rintro m R' Γ' H' ⟨i, rfl, rfl, rfl, rfl, hi, hf⟩
    rcases Nat.lt_or_ge i xs.length with hlt | hge
    case inr =>
      have ei : i = xs.length := by omega
      subst ei
      refine gz_ ?_
      refine WC.condF rfl (decide_eq_false (by omega)) ?_
      refine gz_ ?_
      rw [List.take_length] at hf
      exact end_1 rfl rfl (Env.le.rfl' _) ⟨rfl, rfl, true, rfl, fun _ => ⟨by omega, hf⟩⟩
    case inl =>
      obtain ⟨x, hx⟩ : ∃ x, xs[i]? = some x := ⟨_, List.getElem?_eq_getElem hlt⟩
      obtain ⟨bb, oo, c, rfl, hP, hc⟩ := elemA hA hL (fun _ _ h => h.len) (w := 4) (by decide) hx
      have hP' := hP
      obtain ⟨vb, rfl, ab, cb, cells1, rfl, -, -⟩ := hP
      refine gz_ ?_
      refine WC.condT rfl (by first | rfl | exact decide_eq_true (by omega) | (simp; (first | done | fail)) | (simp; omega)) ?_
      refine gz_ ?_
      (refine WL.alloc tab_ok rfl rfl ?_; intro b4)
      refine gz_ ?_
      refine WL.call rfl Tryz.call73 rfl rfl (by exact (zzFits12_ok hP')) ?_
      rintro _ _ _ - ⟨rfl, rfl, bl, rfl, hbl⟩
      refine gz_ ?_
      cases bl with
      | false =>
        refine gz_ ?_
        refine WE.drop (b := b4) pk_ ?_
        exact end_1 rfl rfl (Env.le.rfl' _) ⟨rfl, rfl, false, rfl, fun h => by cases h⟩
      | true =>
        refine gz_ ?_
        have hwi : IntKind.i64.wrap ((i : Int) + 1) = (i : Int) + 1 := w_i64 (by omega) (by omega)
        exact WE.again ⟨i + 1, rfl, rfl, rfl, rfl, hlt, mem_drop_of hx hf (hbl rfl)⟩ (by omega) ⟨rfl, rfl, congrArg (fun z => some (Value.int .i64 z)) hwi, trivial⟩ sm_
theorem zzFits10_ok {Γ : Env} {H : List Blk} {x : Uni} {c : List Value} (h : UniC Γ x c) :
   Spc Tryz.prog 21 #[.agg c.toArray] Γ H (fun v Γ' H' => Γ = Γ' ∧ H = H' ∧ ∃ b, v = .bool b ∧ (b = true → FitU x)) := by
  obtain ⟨vb, rfl, hA⟩ := h
  have hA' := hA
  obtain ⟨ab, cb, cells, rfl, -, -⟩ := hA
  refine Spc.body1 Tryz.func21 rfl Tryz.ntmps21 rfl ?_
  refine WC.seq ?_
  refine WC.region ?_
  (refine WL.box rfl spi_ rfl ?_; intro b)
  refine gz_ ?_
  refine WL.call rfl Tryz.call41 rfl rfl (by exact (zzFits11_ok hA')) ?_
  rintro _ _ _ - ⟨rfl, rfl, bl, rfl, hbl⟩
  refine gz_ ?_
  cases bl with
  | false =>
    refine gz_ ?_
    refine WE.drop (b := b) pk_ ?_
    exact end_1 rfl rfl (Env.le.rfl' _) ⟨rfl, rfl, false, rfl, fun h => by cases h⟩
  | true =>
    refine gz_ ?_
    refine WE.drop (b := b) pk_ ?_
    exact end_1 rfl rfl (Env.le.rfl' _) ⟨rfl, rfl, true, rfl, fun _ => hbl rfl⟩
theorem zzFits9_ok {Γ : Env} {H : List Blk} {xs : List Uni} {v : Value} (h : Arr Γ (UniC Γ) v xs) :
   Spc Tryz.prog 8 #[v] Γ H (fun v Γ' H' => Γ = Γ' ∧ H = H' ∧ ∃ b, v = .bool b ∧ (b = true → xs.length ≤ 2147483647 ∧ ∀ x ∈ xs, FitU x)) := by
  obtain ⟨a, cap, cells, rfl, hcap, hA, hL⟩ := h
  refine Spc.body1 Tryz.func8 rfl Tryz.ntmps8 rfl ?_
  refine gz_ ?_
  cases h1 : decide ((2147483647 : Int) < (xs.length : Int)) with
  | true =>
    refine gz_ ?_
    exact end_1 rfl rfl (Env.le.rfl' _) ⟨rfl, rfl, false, rfl, fun h => by cases h⟩
  | false =>
    have h1' := of_decide_eq_false h1
    refine gz_ ?_
    refine WC.loopE (fun m R' Γ' H' => ∃ i, R' = [(8, .slice a xs.length cap), (9, .int .i64 (xs.length : Int)), (10, .int .i64 ((i : Nat) : Int))] ∧ Γ = Γ' ∧ H' = H ∧ m = xs.length - i ∧ i ≤ xs.length ∧ ∀ y ∈ xs.take i, FitU y)
      ⟨0, rfl, rfl, rfl, rfl, Nat.zero_le _, fun y hy => by simp at hy⟩ sr_ (fun _ h => h) ?_
    rintro m R' Γ' H' ⟨i, rfl, rfl, rfl, rfl, hi, hf⟩
    rcases Nat.lt_or_ge i xs.length with hlt | hge
    case inr =>
      have ei : i = xs.length := by omega
      subst ei
      refine gz_ ?_
      refine WC.condF rfl (decide_eq_false (by omega)) ?_
      refine gz_ ?_
      rw [List.take_length] at hf
      exact end_1 rfl rfl (Env.le.rfl' _) ⟨rfl, rfl, true, rfl, fun _ => ⟨by omega, hf⟩⟩
    case inl =>
      obtain ⟨x, hx⟩ : ∃ x, xs[i]? = some x := ⟨_, List.getElem?_eq_getElem hlt⟩
      obtain ⟨bb, oo, c, rfl, hP, hc⟩ := elemA hA hL (fun _ _ h => h.len) (w := 4) (by decide) hx
      have hP' := hP
      obtain ⟨vb, rfl, ab, cb, cells1, rfl, -, -⟩ := hP
      refine gz_ ?_
      refine WC.condT rfl (by first | rfl | exact decide_eq_true (by omega) | (simp; (first | done | fail)) | (simp; omega)) ?_
      refine gz_ ?_
      (refine WL.alloc tab_ok rfl rfl ?_; intro b4)
      refine gz_ ?_
      refine WL.call rfl Tryz.call21 rfl rfl (by exact (zzFits10_ok hP')) ?_
      rintro _ _ _ - ⟨rfl, rfl, bl, rfl, hbl⟩
      refine gz_ ?_
      cases bl with
      | false =>
        refine gz_ ?_
        refine WE.drop (b := b4) pk_ ?_
        exact end_1 rfl rfl (Env.le.rfl' _) ⟨rfl, rfl, false, rfl, fun h => by cases h⟩
      | true =>
        refine gz_ ?_
        have hwi : IntKind.i64.wrap ((i : Int) + 1) = (i : Int) + 1 := w_i64 (by omega) (by omega)
        exact WE.again ⟨i + 1, rfl, rfl, rfl, rfl, hlt, mem_drop_of hx hf (hbl rfl)⟩ (by omega) ⟨rfl, rfl, congrArg (fun z => some (Value.int .i64 z)) hwi, trivial⟩ sm_
theorem zzFits7_ok {Γ : Env} {H : List Blk} {xs : List Spn} {v : Value} (h : Arr Γ (SpnC Γ) v xs) :
   Spc Tryz.prog 7 #[v] Γ H (fun v Γ' H' => Γ = Γ' ∧ H = H' ∧ ∃ b, v = .bool b ∧ (b = true → xs.length ≤ 2147483647 ∧ ∀ x ∈ xs, FitS x)) := by
  obtain ⟨a, cap, cells, rfl, hcap, hA, hL⟩ := h
  refine Spc.body1 Tryz.func7 rfl Tryz.ntmps7 rfl ?_
  refine gz_ ?_
  cases h1 : decide ((2147483647 : Int) < (xs.length : Int)) with
  | true =>
    refine gz_ ?_
    exact end_1 rfl rfl (Env.le.rfl' _) ⟨rfl, rfl, false, rfl, fun h => by cases h⟩
  | false =>
    have h1' := of_decide_eq_false h1
    refine gz_ ?_
    refine WC.loopE (fun m R' Γ' H' => ∃ i, R' = [(8, .slice a xs.length cap), (9, .int .i64 (xs.length : Int)), (10, .int .i64 ((i : Nat) : Int))] ∧ Γ = Γ' ∧ H' = H ∧ m = xs.length - i ∧ i ≤ xs.length ∧ ∀ y ∈ xs.take i, FitS y)
      ⟨0, rfl, rfl, rfl, rfl, Nat.zero_le _, fun y hy => by simp at hy⟩ sr_ (fun _ h => h) ?_
    rintro m R' Γ' H' ⟨i, rfl, rfl, rfl, rfl, hi, hf⟩
    rcases Nat.lt_or_ge i xs.length with hlt | hge
    case inr =>
      have ei : i = xs.length := by omega
      subst ei
      refine gz_ ?_
      refine WC.condF rfl (decide_eq_false (by omega)) ?_
      refine gz_ ?_
      rw [List.take_length] at hf
      exact end_1 rfl rfl (Env.le.rfl' _) ⟨rfl, rfl, true, rfl, fun _ => ⟨by omega, hf⟩⟩
    case inl =>
      obtain ⟨x, hx⟩ : ∃ x, xs[i]? = some x := ⟨_, List.getElem?_eq_getElem hlt⟩
      obtain ⟨bb, oo, c, rfl, hP, hc⟩ := elemA hA hL (fun _ _ h => h.len) (w := 5) (by decide) hx
      have hP' := hP
      obtain ⟨vb, rfl, ab, cb, cells1, rfl, -, -⟩ := hP
      refine gz_ ?_
      refine WC.condT rfl (by first | rfl | exact decide_eq_true (by omega) | (simp; (first | done | fail)) | (simp; omega)) ?_
      refine gz_ ?_
      (refine WL.alloc tab_ok rfl rfl ?_; intro b4)
      refine gz_ ?_
      refine WL.call rfl Tryz.call20 rfl rfl (by exact (zzFits8_ok hP')) ?_
      rintro _ _ _ - ⟨rfl, rfl, bl, rfl, hbl⟩
      refine gz_ ?_
      cases bl with
      | false =>
        refine gz_ ?_
        refine WE.drop (b := b4) pk_ ?_
        exact end_1 rfl rfl (Env.le.rfl' _) ⟨rfl, rfl, false, rfl, fun h => by cases h⟩
      | true =>
        refine gz_ ?_
        have hwi : IntKind.i64.wrap ((i : Int) + 1) = (i : Int) + 1 := w_i64 (by omega) (by omega)
        exact WE.again ⟨i + 1, rfl, rfl, rfl, rfl, hlt, mem_drop_of hx hf (hbl rfl)⟩ (by omega) ⟨rfl, rfl, congrArg (fun z => some (Value.int .i64 z)) hwi, trivial⟩ sm_
end Go.Proofs.YtdplhbmoidepgaaGreatDoor
namespace Go.Proofs.YtdplhbmoidepgaaGreatDoor
open Go Go.Sl
set_option maxRecDepth 10000
set_option maxHeartbeats 40000000

theorem class_ok {Γ : Env} {H : List Blk} (v a f : Int) :
   Spc Tryz.prog 74 #[.int .i64 v, .int .i64 a, .int .i64 f] Γ H (fun w Γ' H' => w = .tuple #[.int .i64 (clsOf v a f).1, .bool (clsOf v a f).2] ∧ Γ = Γ' ∧ H = H') := by
  refine Spc.body3 Tryz.func74 rfl Tryz.ntmps74 rfl ?_
  refine gz_ ?_
  by_cases n1 : f = 1
  · subst n1
    refine gz_ ?_
    cases h1 : (a == 17) with
    | true =>
      refine gz_ ?_
      exact end_2 rfl rfl rfl (Env.le.rfl' _) ⟨by simp [clsOf, h1], rfl, rfl⟩
    | false =>
      refine gz_ ?_
      exact end_2 rfl rfl rfl (Env.le.rfl' _) ⟨by simp [clsOf, h1], rfl, rfl⟩
  refine WC.condF rfl (beq_eq_false_iff_ne.2 n1) ?_
  refine gz_ ?_
  by_cases n3 : f = 3
  · subst n3
    refine gz_ ?_
    exact end_2 rfl rfl rfl (Env.le.rfl' _) ⟨by simp [clsOf], rfl, rfl⟩
  refine WC.condF rfl (beq_eq_false_iff_ne.2 n3) ?_
  refine gz_ ?_
  by_cases n4 : f = 4
  · subst n4
    refine gz_ ?_
    exact end_2 rfl rfl rfl (Env.le.rfl' _) ⟨by simp [clsOf], rfl, rfl⟩
  refine WC.condF rfl (beq_eq_false_iff_ne.2 n4) ?_
  refine gz_ ?_
  by_cases n9 : f = 9
  · subst n9
    refine gz_ ?_
    exact end_2 rfl rfl rfl (Env.le.rfl' _) ⟨by simp [clsOf], rfl, rfl⟩
  refine WC.condF rfl (beq_eq_false_iff_ne.2 n9) ?_
  refine gz_ ?_
  by_cases n10 : f = 10
  · subst n10
    refine gz_ ?_
    exact end_2 rfl rfl rfl (Env.le.rfl' _) ⟨by simp [clsOf], rfl, rfl⟩
  refine WC.condF rfl (beq_eq_false_iff_ne.2 n10) ?_
  refine gz_ ?_
  by_cases n5 : f = 5
  · subst n5
    refine gz_ ?_
    cases h1 : (a == 11) with
    | true =>
      refine gz_ ?_
      exact end_2 rfl rfl rfl (Env.le.rfl' _) ⟨by simp [clsOf, h1], rfl, rfl⟩
    | false =>
      refine gz_ ?_
      cases h2 : (a == 28) with
      | true =>
        refine gz_ ?_
        exact end_2 rfl rfl rfl (Env.le.rfl' _) ⟨by simp [clsOf, h1, h2], rfl, rfl⟩
      | false =>
        refine gz_ ?_
        exact end_2 rfl rfl rfl (Env.le.rfl' _) ⟨by simp [clsOf, h1, h2], rfl, rfl⟩
  refine WC.condF rfl (beq_eq_false_iff_ne.2 n5) ?_
  refine gz_ ?_
  by_cases n11 : f = 11
  · subst n11
    refine gz_ ?_
    cases h1 : (a == 11) with
    | true =>
      refine gz_ ?_
      exact end_2 rfl rfl rfl (Env.le.rfl' _) ⟨by simp [clsOf, h1], rfl, rfl⟩
    | false =>
      refine gz_ ?_
      cases h2 : (a == 28) with
      | true =>
        refine gz_ ?_
        exact end_2 rfl rfl rfl (Env.le.rfl' _) ⟨by simp [clsOf, h1, h2], rfl, rfl⟩
      | false =>
        refine gz_ ?_
        exact end_2 rfl rfl rfl (Env.le.rfl' _) ⟨by simp [clsOf, h1, h2], rfl, rfl⟩
  refine WC.condF rfl (beq_eq_false_iff_ne.2 n11) ?_
  refine gz_ ?_
  by_cases n13 : f = 13
  · subst n13
    refine gz_ ?_
    cases h1 : (a == 11) with
    | true =>
      refine gz_ ?_
      exact end_2 rfl rfl rfl (Env.le.rfl' _) ⟨by simp [clsOf, h1], rfl, rfl⟩
    | false =>
      refine gz_ ?_
      cases h2 : (a == 28) with
      | true =>
        refine gz_ ?_
        exact end_2 rfl rfl rfl (Env.le.rfl' _) ⟨by simp [clsOf, h1, h2], rfl, rfl⟩
      | false =>
        refine gz_ ?_
        exact end_2 rfl rfl rfl (Env.le.rfl' _) ⟨by simp [clsOf, h1, h2], rfl, rfl⟩
  refine WC.condF rfl (beq_eq_false_iff_ne.2 n13) ?_
  refine gz_ ?_
  by_cases n15 : f = 15
  · subst n15
    refine gz_ ?_
    cases h1 : (a == 11) with
    | true =>
      refine gz_ ?_
      exact end_2 rfl rfl rfl (Env.le.rfl' _) ⟨by simp [clsOf, h1], rfl, rfl⟩
    | false =>
      refine gz_ ?_
      cases h2 : (a == 28) with
      | true =>
        refine gz_ ?_
        exact end_2 rfl rfl rfl (Env.le.rfl' _) ⟨by simp [clsOf, h1, h2], rfl, rfl⟩
      | false =>
        refine gz_ ?_
        exact end_2 rfl rfl rfl (Env.le.rfl' _) ⟨by simp [clsOf, h1, h2], rfl, rfl⟩
  refine WC.condF rfl (beq_eq_false_iff_ne.2 n15) ?_
  refine gz_ ?_
  by_cases n6 : f = 6
  · subst n6
    refine gz_ ?_
    cases h1 : (a == 11) with
    | true =>
      refine gz_ ?_
      exact end_2 rfl rfl rfl (Env.le.rfl' _) ⟨by simp [clsOf, h1], rfl, rfl⟩
    | false =>
      refine gz_ ?_
      exact end_2 rfl rfl rfl (Env.le.rfl' _) ⟨by simp [clsOf, h1], rfl, rfl⟩
  refine WC.condF rfl (beq_eq_false_iff_ne.2 n6) ?_
  refine gz_ ?_
  by_cases n7 : f = 7
  · subst n7
    refine gz_ ?_
    cases h1 : (a == 11) with
    | true =>
      refine gz_ ?_
      exact end_2 rfl rfl rfl (Env.le.rfl' _) ⟨by simp [clsOf, h1], rfl, rfl⟩
    | false =>
      refine gz_ ?_
      exact end_2 rfl rfl rfl (Env.le.rfl' _) ⟨by simp [clsOf, h1], rfl, rfl⟩
  refine WC.condF rfl (beq_eq_false_iff_ne.2 n7) ?_
  refine gz_ ?_
  by_cases n33 : f = 33
  · subst n33
    refine gz_ ?_
    cases hv : decide ((4 : Int) < v) with
    | false =>
      refine gz_ ?_
      exact end_2 rfl rfl rfl (Env.le.rfl' _) ⟨by simp [clsOf, hv], rfl, rfl⟩
    | true =>
      refine gz_ ?_
      cases h2 : (a == 11) with
      | true =>
        refine gz_ ?_
        exact end_2 rfl rfl rfl (Env.le.rfl' _) ⟨by simp [clsOf, hv, h2], rfl, rfl⟩
      | false =>
        refine gz_ ?_
        cases h3 : (a == 28) with
        | true =>
          refine gz_ ?_
          exact end_2 rfl rfl rfl (Env.le.rfl' _) ⟨by simp [clsOf, hv, h2, h3], rfl, rfl⟩
        | false =>
          refine gz_ ?_
          exact end_2 rfl rfl rfl (Env.le.rfl' _) ⟨by simp [clsOf, hv, h2, h3], rfl, rfl⟩
  refine WC.condF rfl (beq_eq_false_iff_ne.2 n33) ?_
  refine gz_ ?_
  by_cases n12 : f = 12
  · subst n12
    refine gz_ ?_
    cases h1 : (a == 63) with
    | true =>
      refine gz_ ?_
      exact end_2 rfl rfl rfl (Env.le.rfl' _) ⟨by simp [clsOf, h1], rfl, rfl⟩
    | false =>
      refine gz_ ?_
      exact end_2 rfl rfl rfl (Env.le.rfl' _) ⟨by simp [clsOf, h1], rfl, rfl⟩
  refine WC.condF rfl (beq_eq_false_iff_ne.2 n12) ?_
  refine gz_ ?_
  by_cases n25 : f = 25
  · subst n25
    refine gz_ ?_
    cases hv : decide ((3 : Int) < v) with
    | false =>
      refine gz_ ?_
      exact end_2 rfl rfl rfl (Env.le.rfl' _) ⟨by simp [clsOf, hv], rfl, rfl⟩
    | true =>
      refine gz_ ?_
      cases h2 : (a == 63) with
      | true =>
        refine gz_ ?_
        exact end_2 rfl rfl rfl (Env.le.rfl' _) ⟨by simp [clsOf, hv, h2], rfl, rfl⟩
      | false =>
        refine gz_ ?_
        exact end_2 rfl rfl rfl (Env.le.rfl' _) ⟨by simp [clsOf, hv, h2], rfl, rfl⟩
  refine WC.condF rfl (beq_eq_false_iff_ne.2 n25) ?_
  refine gz_ ?_
  by_cases n16 : f = 16
  · subst n16
    refine gz_ ?_
    cases h1 : (a == 73) with
    | true =>
      refine gz_ ?_
      exact end_2 rfl rfl rfl (Env.le.rfl' _) ⟨by simp [clsOf, h1], rfl, rfl⟩
    | false =>
      refine gz_ ?_
      exact end_2 rfl rfl rfl (Env.le.rfl' _) ⟨by simp [clsOf, h1], rfl, rfl⟩
  refine WC.condF rfl (beq_eq_false_iff_ne.2 n16) ?_
  refine gz_ ?_
  by_cases n17 : f = 17
  · subst n17
    refine gz_ ?_
    cases h1 : (a == 73) with
    | true =>
      refine gz_ ?_
      exact end_2 rfl rfl rfl (Env.le.rfl' _) ⟨by simp [clsOf, h1], rfl, rfl⟩
    | false =>
      refine gz_ ?_
      exact end_2 rfl rfl rfl (Env.le.rfl' _) ⟨by simp [clsOf, h1], rfl, rfl⟩
  refine WC.condF rfl (beq_eq_false_iff_ne.2 n17) ?_
  refine gz_ ?_
  by_cases n18 : f = 18
  · subst n18
    refine gz_ ?_
    cases h1 : (a == 73) with
    | true =>
      refine gz_ ?_
      exact end_2 rfl rfl rfl (Env.le.rfl' _) ⟨by simp [clsOf, h1], rfl, rfl⟩
    | false =>
      refine gz_ ?_
      exact end_2 rfl rfl rfl (Env.le.rfl' _) ⟨by simp [clsOf, h1], rfl, rfl⟩
  refine WC.condF rfl (beq_eq_false_iff_ne.2 n18) ?_
  refine gz_ ?_
  by_cases n19 : f = 19
  · subst n19
    refine gz_ ?_
    cases h1 : (a == 73) with
    | true =>
      refine gz_ ?_
      exact end_2 rfl rfl rfl (Env.le.rfl' _) ⟨by simp [clsOf, h1], rfl, rfl⟩
    | false =>
      refine gz_ ?_
      exact end_2 rfl rfl rfl (Env.le.rfl' _) ⟨by simp [clsOf, h1], rfl, rfl⟩
  refine WC.condF rfl (beq_eq_false_iff_ne.2 n19) ?_
  refine gz_ ?_
  by_cases n20 : f = 20
  · subst n20
    refine gz_ ?_
    cases h1 : (a == 73) with
    | true =>
      refine gz_ ?_
      exact end_2 rfl rfl rfl (Env.le.rfl' _) ⟨by simp [clsOf, h1], rfl, rfl⟩
    | false =>
      refine gz_ ?_
      exact end_2 rfl rfl rfl (Env.le.rfl' _) ⟨by simp [clsOf, h1], rfl, rfl⟩
  refine WC.condF rfl (beq_eq_false_iff_ne.2 n20) ?_
  refine gz_ ?_
  by_cases n21 : f = 21
  · subst n21
    refine gz_ ?_
    cases h1 : (a == 73) with
    | true =>
      refine gz_ ?_
      exact end_2 rfl rfl rfl (Env.le.rfl' _) ⟨by simp [clsOf, h1], rfl, rfl⟩
    | false =>
      refine gz_ ?_
      exact end_2 rfl rfl rfl (Env.le.rfl' _) ⟨by simp [clsOf, h1], rfl, rfl⟩
  refine WC.condF rfl (beq_eq_false_iff_ne.2 n21) ?_
  refine gz_ ?_
  by_cases n32 : f = 32
  · subst n32
    refine gz_ ?_
    cases hv : decide ((3 : Int) < v) with
    | false =>
      refine gz_ ?_
      exact end_2 rfl rfl rfl (Env.le.rfl' _) ⟨by simp [clsOf, hv], rfl, rfl⟩
    | true =>
      refine gz_ ?_
      exact end_2 rfl rfl rfl (Env.le.rfl' _) ⟨by simp [clsOf, hv], rfl, rfl⟩
  refine WC.condF rfl (beq_eq_false_iff_ne.2 n32) ?_
  refine gz_ ?_
  by_cases n8 : f = 8
  · subst n8
    refine gz_ ?_
    cases h1 : (a == 3) with
    | true =>
      refine gz_ ?_
      exact end_2 rfl rfl rfl (Env.le.rfl' _) ⟨by simp [clsOf, h1], rfl, rfl⟩
    | false =>
      refine gz_ ?_
      cases h2 : (a == 27) with
      | true =>
        refine gz_ ?_
        exact end_2 rfl rfl rfl (Env.le.rfl' _) ⟨by simp [clsOf, h1, h2], rfl, rfl⟩
      | false =>
        refine gz_ ?_
        exact end_2 rfl rfl rfl (Env.le.rfl' _) ⟨by simp [clsOf, h1, h2], rfl, rfl⟩
  refine WC.condF rfl (beq_eq_false_iff_ne.2 n8) ?_
  refine gz_ ?_
  by_cases n14 : f = 14
  · subst n14
    refine gz_ ?_
    cases h1 : (a == 3) with
    | true =>
      refine gz_ ?_
      exact end_2 rfl rfl rfl (Env.le.rfl' _) ⟨by simp [clsOf, h1], rfl, rfl⟩
    | false =>
      refine gz_ ?_
      cases h2 : (a == 27) with
      | true =>
        refine gz_ ?_
        exact end_2 rfl rfl rfl (Env.le.rfl' _) ⟨by simp [clsOf, h1, h2], rfl, rfl⟩
      | false =>
        refine gz_ ?_
        exact end_2 rfl rfl rfl (Env.le.rfl' _) ⟨by simp [clsOf, h1, h2], rfl, rfl⟩
  refine WC.condF rfl (beq_eq_false_iff_ne.2 n14) ?_
  refine gz_ ?_
  by_cases n31 : f = 31
  · subst n31
    refine gz_ ?_
    cases hv : decide ((4 : Int) < v) with
    | false =>
      refine gz_ ?_
      exact end_2 rfl rfl rfl (Env.le.rfl' _) ⟨by simp [clsOf, hv], rfl, rfl⟩
    | true =>
      refine gz_ ?_
      cases h2 : (a == 3) with
      | true =>
        refine gz_ ?_
        exact end_2 rfl rfl rfl (Env.le.rfl' _) ⟨by simp [clsOf, hv, h2], rfl, rfl⟩
      | false =>
        refine gz_ ?_
        cases h3 : (a == 27) with
        | true =>
          refine gz_ ?_
          exact end_2 rfl rfl rfl (Env.le.rfl' _) ⟨by simp [clsOf, hv, h2, h3], rfl, rfl⟩
        | false =>
          refine gz_ ?_
          exact end_2 rfl rfl rfl (Env.le.rfl' _) ⟨by simp [clsOf, hv, h2, h3], rfl, rfl⟩
  refine WC.condF rfl (beq_eq_false_iff_ne.2 n31) ?_
  refine gz_ ?_
  by_cases n24 : f = 24
  · subst n24
    refine gz_ ?_
    cases hv : decide ((3 : Int) < v) with
    | false =>
      refine gz_ ?_
      exact end_2 rfl rfl rfl (Env.le.rfl' _) ⟨by simp [clsOf, hv], rfl, rfl⟩
    | true =>
      refine gz_ ?_
      cases h2 : (a == 2) with
      | true =>
        refine gz_ ?_
        exact end_2 rfl rfl rfl (Env.le.rfl' _) ⟨by simp [clsOf, hv, h2], rfl, rfl⟩
      | false =>
        refine gz_ ?_
        exact end_2 rfl rfl rfl (Env.le.rfl' _) ⟨by simp [clsOf, hv, h2], rfl, rfl⟩
  refine WC.condF rfl (beq_eq_false_iff_ne.2 n24) ?_
  refine gz_ ?_
  by_cases n23 : f = 23
  · subst n23
    refine gz_ ?_
    cases hv : decide ((3 : Int) < v) with
    | false =>
      refine gz_ ?_
      exact end_2 rfl rfl rfl (Env.le.rfl' _) ⟨by simp [clsOf, hv], rfl, rfl⟩
    | true =>
      refine gz_ ?_
      exact end_2 rfl rfl rfl (Env.le.rfl' _) ⟨by simp [clsOf, hv], rfl, rfl⟩
  refine WC.condF rfl (beq_eq_false_iff_ne.2 n23) ?_
  refine gz_ ?_
  exact end_2 rfl rfl rfl (Env.le.rfl' _) ⟨by simp [clsOf, n1, n3, n4, n9, n10, n5, n11, n13, n15, n6, n7, n33, n12, n25, n16, n17, n18, n19, n20, n21, n32, n8, n14, n31, n24, n23], rfl, rfl⟩
theorem offsetSize_ok {Γ : Env} {H : List Blk} (x0 x2 x3 : Value) (w : Bool) :
   Spc Tryz.prog 99 #[.agg #[x0, .bool w, x2, x3]] Γ H (fun v Γ' H' => v = .int .i64 ((offSz w : Nat) : Int) ∧ Γ = Γ' ∧ H = H') := by
  refine Spc.body1 Tryz.func99 rfl Tryz.ntmps99 rfl ?_
  refine WC.seq ?_
  refine WC.region ?_
  (refine WL.box rfl spi_ rfl ?_; intro b)
  refine gz_ ?_
  cases w with
  | true =>
    refine gz_ ?_
    refine WE.drop (b := b) pk_ ?_
    exact end_1 rfl rfl (Env.le.rfl' _) ⟨rfl, rfl, rfl⟩
  | false =>
    refine gz_ ?_
    refine WE.drop (b := b) pk_ ?_
    exact end_1 rfl rfl (Env.le.rfl' _) ⟨rfl, rfl, rfl⟩
theorem sizeOf_ok {Γ : Env} {H : List Blk} (vers size : Int) (w : Bool) (x3 : Value) (f : Int) (hs : 0 ≤ size) :
   Spc Tryz.prog 75 #[.agg #[.int .i64 vers, .bool w, .int .i64 size, x3], .int .i64 f] Γ H (fun v Γ' H' => v = .int .i64 ((szOf vers w size f : Nat) : Int) ∧ Γ = Γ' ∧ H = H') := by
  have hst : ((size.toNat : Nat) : Int) = size := Int.toNat_of_nonneg hs
  refine Spc.body2 Tryz.func75 rfl Tryz.ntmps75 rfl ?_
  refine WC.seq ?_
  refine WC.region ?_
  (refine WL.box rfl spi_ rfl ?_; intro b)
  refine gz_ ?_
  by_cases n11 : f = 11
  · subst n11
    refine gz_ ?_
    refine WE.drop (b := b) pk_ ?_
    exact end_1 rfl rfl (Env.le.rfl' _) ⟨rfl, rfl, rfl⟩
  refine WC.condF rfl (beq_eq_false_iff_ne.2 n11) ?_
  refine gz_ ?_
  by_cases n12 : f = 12
  · subst n12
    refine gz_ ?_
    refine WE.drop (b := b) pk_ ?_
    exact end_1 rfl rfl (Env.le.rfl' _) ⟨rfl, rfl, rfl⟩
  refine WC.condF rfl (beq_eq_false_iff_ne.2 n12) ?_
  refine gz_ ?_
  by_cases n17 : f = 17
  · subst n17
    refine gz_ ?_
    refine WE.drop (b := b) pk_ ?_
    exact end_1 rfl rfl (Env.le.rfl' _) ⟨rfl, rfl, rfl⟩
  refine WC.condF rfl (beq_eq_false_iff_ne.2 n17) ?_
  refine gz_ ?_
  by_cases n5 : f = 5
  · subst n5
    refine gz_ ?_
    refine WE.drop (b := b) pk_ ?_
    exact end_1 rfl rfl (Env.le.rfl' _) ⟨rfl, rfl, rfl⟩
  refine WC.condF rfl (beq_eq_false_iff_ne.2 n5) ?_
  refine gz_ ?_
  by_cases n18 : f = 18
  · subst n18
    refine gz_ ?_
    refine WE.drop (b := b) pk_ ?_
    exact end_1 rfl rfl (Env.le.rfl' _) ⟨rfl, rfl, rfl⟩
  refine WC.condF rfl (beq_eq_false_iff_ne.2 n18) ?_
  refine gz_ ?_
  by_cases n6 : f = 6
  · subst n6
    refine gz_ ?_
    refine WE.drop (b := b) pk_ ?_
    exact end_1 rfl rfl (Env.le.rfl' _) ⟨rfl, rfl, rfl⟩
  refine WC.condF rfl (beq_eq_false_iff_ne.2 n6) ?_
  refine gz_ ?_
  by_cases n19 : f = 19
  · subst n19
    refine gz_ ?_
    refine WE.drop (b := b) pk_ ?_
    exact end_1 rfl rfl (Env.le.rfl' _) ⟨rfl, rfl, rfl⟩
  refine WC.condF rfl (beq_eq_false_iff_ne.2 n19) ?_
  refine gz_ ?_
  by_cases n7 : f = 7
  · subst n7
    refine gz_ ?_
    refine WE.drop (b := b) pk_ ?_
    exact end_1 rfl rfl (Env.le.rfl' _) ⟨rfl, rfl, rfl⟩
  refine WC.condF rfl (beq_eq_false_iff_ne.2 n7) ?_
  refine gz_ ?_
  by_cases n20 : f = 20
  · subst n20
    refine gz_ ?_
    refine WE.drop (b := b) pk_ ?_
    exact end_1 rfl rfl (Env.le.rfl' _) ⟨rfl, rfl, rfl⟩
  refine WC.condF rfl (beq_eq_false_iff_ne.2 n20) ?_
  refine gz_ ?_
  by_cases n32 : f = 32
  · subst n32
    refine gz_ ?_
    refine WE.drop (b := b) pk_ ?_
    exact end_1 rfl rfl (Env.le.rfl' _) ⟨rfl, rfl, rfl⟩
  refine WC.condF rfl (beq_eq_false_iff_ne.2 n32) ?_
  refine gz_ ?_
  by_cases n1 : f = 1
  · subst n1
    refine gz_ ?_
    refine WE.drop (b := b) pk_ ?_
    exact end_1 rfl rfl (Env.le.rfl' _) ⟨by simp [szOf, hst], rfl, rfl⟩
  refine WC.condF rfl (beq_eq_false_iff_ne.2 n1) ?_
  refine gz_ ?_
  by_cases n16 : f = 16
  · subst n16
    refine gz_ ?_
    by_cases hv : vers = 2
    · refine WC.condT rfl (beq_iff_eq.2 hv) ?_
      refine gz_ ?_
      refine WE.drop (b := b) pk_ ?_
      exact end_1 rfl rfl (Env.le.rfl' _) ⟨by simp [szOf, hst, hv], rfl, rfl⟩
    · refine WC.condF rfl (beq_eq_false_iff_ne.2 hv) ?_
      refine gz_ ?_
      refine WL.call rfl Tryz.call99 rfl rfl (by exact (offsetSize_ok _ _ _ w)) ?_
      rintro _ _ _ - ⟨rfl, rfl, rfl⟩
      refine gz_ ?_
      refine WE.drop (b := b) pk_ ?_
      exact end_1 rfl rfl (Env.le.rfl' _) ⟨by simp [szOf, hv], rfl, rfl⟩
  refine WC.condF rfl (beq_eq_false_iff_ne.2 n16) ?_
  refine gz_ ?_
  by_cases n23 : f = 23
  · subst n23
    refine gz_ ?_
    refine WL.call rfl Tryz.call99 rfl rfl (by exact (offsetSize_ok _ _ _ w)) ?_
    rintro _ _ _ - ⟨rfl, rfl, rfl⟩
    refine gz_ ?_
    refine WE.drop (b := b) pk_ ?_
    exact end_1 rfl rfl (Env.le.rfl' _) ⟨by simp [szOf], rfl, rfl⟩
  refine WC.condF rfl (beq_eq_false_iff_ne.2 n23) ?_
  refine gz_ ?_
  refine WE.drop (b := b) pk_ ?_
  exact end_1 rfl rfl (Env.le.rfl' _) ⟨by simp [szOf, n11, n12, n17, n5, n18, n6, n19, n7, n20, n32, n1, n16, n23], rfl, rfl⟩
end Go.Proofs.YtdplhbmoidepgaaGreatDoor
namespace Go.Proofs.YtdplhbmoidepgaaGreatDoor
open Go Go.Sl
set_option maxRecDepth 10000
set_option maxHeartbeats 40000000

theorem isText_ok {Γ : Env} {H : List Blk} {s : ByteArray} (hs : s.size ≤ 2147483647) :
   Spc Tryz.prog 76 #[.string s] Γ H (fun v Γ' H' => Γ = Γ' ∧ H = H' ∧ ∃ b, v = .bool b ∧ (b = true → NoZero s)) := by
  refine Spc.body1 Tryz.func76 rfl Tryz.ntmps76 rfl ?_
  refine gz_ ?_
  have hsl : s.data.toList.length = s.size := by rw [Array.length_toList]; rfl
  refine WC.loopE (fun m R' Γ' H' => ∃ i, R' = [(0, .string s), (3, .int .i64 ((i : Nat) : Int))] ∧ Γ = Γ' ∧ H' = H ∧ m = s.size - i ∧ i ≤ s.size ∧ ∀ y ∈ s.data.toList.take i, y ≠ 0)
    ⟨0, rfl, rfl, rfl, rfl, Nat.zero_le _, fun y hy => by simp at hy⟩ sr_ (fun _ h => h) ?_
  rintro m R' Γ' H' ⟨i, rfl, rfl, rfl, rfl, hi, hf⟩
  rcases Nat.lt_or_ge i s.size with hlt | hge
  case inr =>
    have ei : i = s.size := by omega
    subst ei
    refine gz_ ?_
    refine WC.condF rfl (decide_eq_false (by omega)) ?_
    refine gz_ ?_
    rw [← hsl, List.take_length] at hf
    exact end_1 rfl rfl (Env.le.rfl' _) ⟨rfl, rfl, true, rfl, fun _ => hf⟩
  case inl =>
    obtain ⟨x, hx⟩ : ∃ x, s.data.toList[i]? = some x := ⟨_, List.getElem?_eq_getElem (by omega)⟩
    refine gz_ ?_
    refine WC.condT rfl (by first | rfl | exact decide_eq_true (by omega) | (simp; (first | done | fail)) | (simp; omega)) ?_
    refine gz_ ?_
    refine WL.sidx tab_ok rfl rfl rfl (by omega) (b := x) (by rw [Int.toNat_natCast]; exact hx) rfl ?_
    refine gz_ ?_
    have hwi : IntKind.i64.wrap ((i : Int) + 1) = (i : Int) + 1 := w_i64 (by omega) (by omega)
    cases h0 : ((x.toNat : Int) == 0) with
    | true =>
      refine gz_ ?_
      exact end_1 rfl rfl (Env.le.rfl' _) ⟨rfl, rfl, false, rfl, fun h => by cases h⟩
    | false =>
      refine gz_ ?_
      refine WE.again ⟨i + 1, rfl, rfl, rfl, rfl, hlt, mem_drop_of hx hf (fun e => ?_)⟩ (by omega) ⟨rfl, congrArg (fun z => some (Value.int .i64 z)) hwi, trivial⟩ (fun _ h => h)
      subst e
      cases h0
theorem isTop_ok {Γ : Env} {H : List Blk} (t : Int) :
   Spc Tryz.prog 44 #[.int .i64 t] Γ H (fun v Γ' H' => Γ = Γ' ∧ H = H' ∧ ∃ b, v = .bool b) := by
  refine Spc.body1 Tryz.func44 rfl Tryz.ntmps44 rfl ?_
  refine gz_ ?_
  cases h1 : (t == 17)
  · refine gz_ ?_
    cases h2 : (t == 60)
    · refine gz_ ?_
      cases h3 : (t == 65)
      · refine gz_ ?_
        exact end_1 rfl rfl (Env.le.rfl' _) ⟨rfl, rfl, _, rfl⟩
      · refine gz_ ?_
        exact end_1 rfl rfl (Env.le.rfl' _) ⟨rfl, rfl, _, rfl⟩
    · refine gz_ ?_
      exact end_1 rfl rfl (Env.le.rfl' _) ⟨rfl, rfl, _, rfl⟩
  · refine gz_ ?_
    exact end_1 rfl rfl (Env.le.rfl' _) ⟨rfl, rfl, _, rfl⟩
/-- What IsAttr tells. -/
structure AttF (v : Int) (w : Bool) (z : Int) (a : Att) : Prop where
  cls : (clsOf v a.attr a.form).2 = true
  ind : a.ind = true → a.form ≠ 33
  fit : 0 < szOf v w z a.form → szOf v w z a.form < 8 → a.n < 256 ^ szOf v w z a.form
  c2 : (clsOf v a.attr a.form).1 = 2 → (a.form = 10 → a.b.length < 256) ∧ (a.form = 3 → a.b.length < 65536)
  c5 : (clsOf v a.attr a.form).1 = 5 → a.n ≤ 1
  c6 : (clsOf v a.attr a.form).1 = 6 ∨ (clsOf v a.attr a.form).1 = 10 → a.n < 2147483648
  c12 : (clsOf v a.attr a.form).1 = 12 → NoZero a.s
  c3 : (clsOf v a.attr a.form).1 ≠ 2 → (clsOf v a.attr a.form).1 ≠ 5 → (clsOf v a.attr a.form).1 ≠ 6 → (clsOf v a.attr a.form).1 ≠ 10 → (clsOf v a.attr a.form).1 ≠ 12 → a.form = 15 → a.n < 9223372036854775808
theorem szOf_cases {v z f : Int} {w : Bool} (hz : z = 4 ∨ z = 8) : szOf v w z f = 0 ∨ szOf v w z f = 1 ∨ szOf v w z f = 2 ∨ szOf v w z f = 4 ∨ szOf v w z f = 8 := by
  have ho : offSz w = 4 ∨ offSz w = 8 := by cases w <;> simp [offSz]
  have hz' : z.toNat = 4 ∨ z.toNat = 8 := by omega
  unfold szOf
  generalize offSz w = o at *
  generalize z.toNat = zn at *
  repeat' split
  all_goals omega
theorem isAttr_ok {Γ : Env} {H : List Blk} {vers size : Int} {w : Bool} {vn : Value} {a : Att} {c : List Value} (hz : size = 4 ∨ size = 8) (h : AttC Γ a c) (hf : FitA a) :
   Spc Tryz.prog 45 #[.agg #[.int .i64 vers, .bool w, .int .i64 size, vn], .agg c.toArray] Γ H (fun v Γ' H' => Γ = Γ' ∧ H = H' ∧ ∃ b, v = .bool b ∧ (b = true → AttF vers w size a)) := by
  obtain ⟨vb, rfl, ⟨ab, cb, rfl, -, -⟩, hn⟩ := h
  refine Spc.body2 Tryz.func45 rfl Tryz.ntmps45 rfl ?_
  refine WC.seq ?_
  refine WC.region ?_
  (refine WL.box rfl spi_ rfl ?_; intro bu)
  (refine WL.box rfl spi_ rfl ?_; intro ba)
  refine WL.run tab_ok rfl rfl ?_
  refine WL.nil ?_
  refine WE.then_ ?_
  refine WC.seq ?_
  refine WC.cutM (fun R' Γ' H' => R' = [(2, .pointer (some ⟨bu, 0, none⟩)), (3, .pointer (some ⟨ba, 0, none⟩)), (5, .int .i64 (clsOf vers a.attr a.form).1), (6, .bool (clsOf vers a.attr a.form).2)] ∧ Γ = Γ' ∧ H' = (ba, cel [.int .i64 a.attr, .int .i64 a.form, .bool a.ind, .int .u64 (a.n : Int), .string a.s, .slice ab a.b.length cb] 63) :: (bu, cel [.int .i64 vers, .bool w, .int .i64 size, vn] 58) :: H) ?_ ?_
  · refine gz_ ?_
    refine WL.call rfl Tryz.call74 rfl rfl (by exact (class_ok vers a.attr a.form)) ?_
    rintro _ _ _ - ⟨rfl, rfl, rfl⟩
    refine gz_ ?_
    exact WE.mid ⟨rfl, rfl, rfl⟩ sr_ (fun _ h => h)
  rintro R' Γ' H' ⟨rfl, rfl, rfl⟩
  generalize hC1 : (clsOf vers a.attr a.form).1 = c1
  generalize hC2 : (clsOf vers a.attr a.form).2 = c2
  cases c2 with
  | false =>
    refine gz_ ?_
    refine WE.drop (b := ba) pk_ ?_
    refine WE.drop (b := bu) pk_ ?_
    exact end_1 rfl rfl (Env.le.rfl' _) ⟨rfl, rfl, false, rfl, fun h => by cases h⟩
  | true =>
    refine WE.then_ ?_
    refine WC.seq ?_
    refine WC.cutM (fun R' Γ' H' => ∃ hi : (a.ind = true → a.form ≠ 33), R' = [(2, .pointer (some ⟨bu, 0, none⟩)), (3, .pointer (some ⟨ba, 0, none⟩)), (5, .int .i64 c1)] ∧ Γ = Γ' ∧ H' = (ba, cel [.int .i64 a.attr, .int .i64 a.form, .bool a.ind, .int .u64 (a.n : Int), .string a.s, .slice ab a.b.length cb] 63) :: (bu, cel [.int .i64 vers, .bool w, .int .i64 size, vn] 58) :: H) ?_ ?_
    · refine gz_ ?_
      cases hi : a.ind with
      | false =>
        refine gz_ ?_
        exact WE.mid ⟨fun h => (by cases h), rfl, rfl, rfl⟩ sr_ (fun _ h => h)
      | true =>
        refine gz_ ?_
        by_cases h33 : a.form = 33
        · rw [h33]
          refine gz_ ?_
          refine WE.drop (b := ba) pk_ ?_
          refine WE.drop (b := bu) pk_ ?_
          exact end_1 rfl rfl (Env.le.rfl' _) ⟨rfl, rfl, false, rfl, fun h => by cases h⟩
        · rw [show (a.form == 33) = false from beq_eq_false_iff_ne.2 h33]
          refine gz_ ?_
          exact WE.mid ⟨fun _ => h33, rfl, rfl, rfl⟩ sr_ (fun _ h => h)
    rintro R' Γ' H' ⟨hi, rfl, rfl, rfl⟩
    refine gz_ ?_
    refine WL.call rfl Tryz.call75 rfl rfl (by exact (sizeOf_ok vers size w vn a.form (by omega))) ?_
    rintro _ _ _ - ⟨rfl, rfl, rfl⟩
    refine gz_ ?_
    generalize hS : szOf vers w size a.form = sz
    have hsz := szOf_cases (v := vers) (f := a.form) (w := w) hz
    rw [hS] at hsz
    refine WC.cutM (fun R' Γ' H' => ∃ b46, R' = [(2, .pointer (some ⟨bu, 0, none⟩)), (3, .pointer (some ⟨ba, 0, none⟩)), (5, .int .i64 c1), (46, .bool b46)] ∧ Γ = Γ' ∧ H' = (ba, cel [.int .i64 a.attr, .int .i64 a.form, .bool a.ind, .int .u64 (a.n : Int), .string a.s, .slice ab a.b.length cb] 63) :: (bu, cel [.int .i64 vers, .bool w, .int .i64 size, vn] 58) :: H ∧ (b46 = false → 0 < sz → sz < 8 → a.n < 256 ^ sz)) ?_ ?_
    · rcases hsz with rfl | rfl | rfl | rfl | rfl
      · refine WC.draw 14 (.take 0 (.take 1 (.take 2 (.take 3 (.take 4 (.take 5 (.take 6 (.take 7 (.take 8 (.take 9 (.take 10 (.take 11 (.take 12 (.take 13 .done)))))))))))))) [(ba, _)] mixed (by (repeat (first | exact trivial | refine ⟨⟨_, pk_⟩, ?_⟩)); (first | done | fail)) (by decide +kernel) ?_
        refine dz_ ?_
        refine gz_ ?_
        exact WE.mid ⟨false, rfl, rfl, rfl, fun _ h1 h2 => by omega⟩ sr_ (fun _ h => h)
      · refine WC.draw 14 (.take 0 (.take 1 (.take 2 (.take 3 (.take 4 (.take 5 (.take 6 (.take 7 (.take 8 (.take 9 (.take 10 (.take 11 (.take 12 (.take 13 .done)))))))))))))) [(ba, _)] mixed (by (repeat (first | exact trivial | refine ⟨⟨_, pk_⟩, ?_⟩)); (first | done | fail)) (by decide +kernel) ?_
        refine dz_ ?_
        refine gz_ ?_
        exact WE.mid ⟨decide (IntKind.u64.wrap (1 * 2 ^ min (IntKind.i64.wrap (8 * ((1 : Nat) : Int))).toNat IntKind.u64.bits) ≤ (a.n : Int)), rfl, rfl, rfl, fun h _ _ => by
          have h1 := of_decide_eq_false h
          rw [show IntKind.u64.wrap (1 * 2 ^ min (IntKind.i64.wrap (8 * ((1 : Nat) : Int))).toNat IntKind.u64.bits) = 256 from by decide] at h1
          rw [show (256 : Nat) ^ 1 = 256 from by decide]
          omega⟩ sr_ (fun _ h => h)
      · refine WC.draw 14 (.take 0 (.take 1 (.take 2 (.take 3 (.take 4 (.take 5 (.take 6 (.take 7 (.take 8 (.take 9 (.take 10 (.take 11 (.take 12 (.take 13 .done)))))))))))))) [(ba, _)] mixed (by (repeat (first | exact trivial | refine ⟨⟨_, pk_⟩, ?_⟩)); (first | done | fail)) (by decide +kernel) ?_
        refine dz_ ?_
        refine gz_ ?_
        exact WE.mid ⟨decide (IntKind.u64.wrap (1 * 2 ^ min (IntKind.i64.wrap (8 * ((2 : Nat) : Int))).toNat IntKind.u64.bits) ≤ (a.n : Int)), rfl, rfl, rfl, fun h _ _ => by
          have h1 := of_decide_eq_false h
          rw [show IntKind.u64.wrap (1 * 2 ^ min (IntKind.i64.wrap (8 * ((2 : Nat) : Int))).toNat IntKind.u64.bits) = 65536 from by decide] at h1
          rw [show (256 : Nat) ^ 2 = 65536 from by decide]
          omega⟩ sr_ (fun _ h => h)
      · refine WC.draw 14 (.take 0 (.take 1 (.take 2 (.take 3 (.take 4 (.take 5 (.take 6 (.take 7 (.take 8 (.take 9 (.take 10 (.take 11 (.take 12 (.take 13 .done)))))))))))))) [(ba, _)] mixed (by (repeat (first | exact trivial | refine ⟨⟨_, pk_⟩, ?_⟩)); (first | done | fail)) (by decide +kernel) ?_
        refine dz_ ?_
        refine gz_ ?_
        exact WE.mid ⟨decide (IntKind.u64.wrap (1 * 2 ^ min (IntKind.i64.wrap (8 * ((4 : Nat) : Int))).toNat IntKind.u64.bits) ≤ (a.n : Int)), rfl, rfl, rfl, fun h _ _ => by
          have h1 := of_decide_eq_false h
          rw [show IntKind.u64.wrap (1 * 2 ^ min (IntKind.i64.wrap (8 * ((4 : Nat) : Int))).toNat IntKind.u64.bits) = 4294967296 from by decide] at h1
          rw [show (256 : Nat) ^ 4 = 4294967296 from by decide]
          omega⟩ sr_ (fun _ h => h)
      · refine WC.draw 14 (.take 0 (.take 1 (.take 2 (.take 3 (.take 4 (.take 5 (.take 6 (.take 7 (.take 8 (.take 9 (.take 10 (.take 11 (.take 12 (.take 13 .done)))))))))))))) [(ba, _)] mixed (by (repeat (first | exact trivial | refine ⟨⟨_, pk_⟩, ?_⟩)); (first | done | fail)) (by decide +kernel) ?_
        refine dz_ ?_
        refine gz_ ?_
        exact WE.mid ⟨false, rfl, rfl, rfl, fun _ h1 h2 => by omega⟩ sr_ (fun _ h => h)
    rintro R' Γ' H' ⟨b46, rfl, rfl, rfl, hfit⟩
    cases b46 with
    | true =>
      refine gz_ ?_
      refine WE.drop (b := ba) pk_ ?_
      refine WE.drop (b := bu) pk_ ?_
      exact end_1 rfl rfl (Env.le.rfl' _) ⟨rfl, rfl, _, rfl, fun hb => by cases hb⟩
    | false =>
      refine gz_ ?_
      by_cases k2 : c1 = 2
      · subst k2
        refine gz_ ?_
        by_cases f10 : a.form = 10
        · rw [f10]
          refine gz_ ?_
          cases hbl : decide ((a.b.length : Int) < 256) with
          | false =>
            refine gz_ ?_
            refine WE.drop (b := ba) pk_ ?_
            refine WE.drop (b := bu) pk_ ?_
            exact end_1 rfl rfl (Env.le.rfl' _) ⟨rfl, rfl, _, rfl, fun hb => by cases hb⟩
          | true =>
            have hbl' := of_decide_eq_true hbl
            refine gz_ ?_
            refine WE.drop (b := ba) pk_ ?_
            refine WE.drop (b := bu) pk_ ?_
            exact end_1 rfl rfl (Env.le.rfl' _) ⟨rfl, rfl, _, rfl, fun hb => ⟨hC2, hi, by rw [hS]; exact hfit rfl, by rw [hC1]; exact fun _ => ⟨fun _ => by omega, fun h => absurd h (by omega)⟩, by rw [hC1]; exact fun h => absurd h (by omega), by rw [hC1]; exact fun h => absurd h (by omega), by rw [hC1]; exact fun h => absurd h (by omega), by rw [hC1]; exact fun h1 h2 h3 h4 h5 => by omega⟩⟩
        · rw [show (a.form != 10) = true from bne_iff_ne.2 f10]
          refine gz_ ?_
          by_cases f3 : a.form = 3
          · rw [f3]
            refine gz_ ?_
            refine WE.drop (b := ba) pk_ ?_
            refine WE.drop (b := bu) pk_ ?_
            exact end_1 rfl rfl (Env.le.rfl' _) ⟨rfl, rfl, _, rfl, fun hb => ⟨hC2, hi, by rw [hS]; exact hfit rfl, by rw [hC1]; exact fun _ => ⟨fun h => absurd h f10, fun _ => by have := of_decide_eq_true hb; omega⟩, by rw [hC1]; exact fun h => absurd h (by omega), by rw [hC1]; exact fun h => absurd h (by omega), by rw [hC1]; exact fun h => absurd h (by omega), by rw [hC1]; exact fun h1 h2 h3 h4 h5 => by omega⟩⟩
          · rw [show (a.form != 3) = true from bne_iff_ne.2 f3]
            refine gz_ ?_
            refine WE.drop (b := ba) pk_ ?_
            refine WE.drop (b := bu) pk_ ?_
            exact end_1 rfl rfl (Env.le.rfl' _) ⟨rfl, rfl, _, rfl, fun hb => ⟨hC2, hi, by rw [hS]; exact hfit rfl, by rw [hC1]; exact fun _ => ⟨fun h => absurd h f10, fun h => absurd h f3⟩, by rw [hC1]; exact fun h => absurd h (by omega), by rw [hC1]; exact fun h => absurd h (by omega), by rw [hC1]; exact fun h => absurd h (by omega), by rw [hC1]; exact fun h1 h2 h3 h4 h5 => by omega⟩⟩
      refine WC.condF rfl (beq_eq_false_iff_ne.2 k2) ?_
      refine gz_ ?_
      by_cases k5 : c1 = 5
      · subst k5
        refine gz_ ?_
        refine WE.drop (b := ba) pk_ ?_
        refine WE.drop (b := bu) pk_ ?_
        exact end_1 rfl rfl (Env.le.rfl' _) ⟨rfl, rfl, _, rfl, fun hb => ⟨hC2, hi, by rw [hS]; exact hfit rfl, by rw [hC1]; exact fun h => absurd h (by omega), by rw [hC1]; exact fun _ => by have := of_decide_eq_true hb; omega, by rw [hC1]; exact fun h => absurd h (by omega), by rw [hC1]; exact fun h => absurd h (by omega), by rw [hC1]; exact fun h1 h2 h3 h4 h5 => by omega⟩⟩
      refine WC.condF rfl (beq_eq_false_iff_ne.2 k5) ?_
      refine gz_ ?_
      by_cases k6 : c1 = 6
      · subst k6
        refine gz_ ?_
        refine WE.drop (b := ba) pk_ ?_
        refine WE.drop (b := bu) pk_ ?_
        exact end_1 rfl rfl (Env.le.rfl' _) ⟨rfl, rfl, _, rfl, fun hb => ⟨hC2, hi, by rw [hS]; exact hfit rfl, by rw [hC1]; exact fun h => absurd h (by omega), by rw [hC1]; exact fun h => absurd h (by omega), by rw [hC1]; exact fun _ => by have := of_decide_eq_true hb; omega, by rw [hC1]; exact fun h => absurd h (by omega), by rw [hC1]; exact fun h1 h2 h3 h4 h5 => by omega⟩⟩
      refine WC.condF rfl (beq_eq_false_iff_ne.2 k6) ?_
      refine gz_ ?_
      by_cases k10 : c1 = 10
      · subst k10
        refine gz_ ?_
        refine WE.drop (b := ba) pk_ ?_
        refine WE.drop (b := bu) pk_ ?_
        exact end_1 rfl rfl (Env.le.rfl' _) ⟨rfl, rfl, _, rfl, fun hb => ⟨hC2, hi, by rw [hS]; exact hfit rfl, by rw [hC1]; exact fun h => absurd h (by omega), by rw [hC1]; exact fun h => absurd h (by omega), by rw [hC1]; exact fun _ => by have := of_decide_eq_true hb; omega, by rw [hC1]; exact fun h => absurd h (by omega), by rw [hC1]; exact fun h1 h2 h3 h4 h5 => by omega⟩⟩
      refine WC.condF rfl (beq_eq_false_iff_ne.2 k10) ?_
      refine gz_ ?_
      by_cases k12 : c1 = 12
      · subst k12
        refine gz_ ?_
        refine WL.call rfl Tryz.call76 rfl rfl (by exact (isText_ok hf.1)) ?_
        rintro _ _ _ - ⟨rfl, rfl, bl, rfl, hbl⟩
        refine gz_ ?_
        refine WE.drop (b := ba) pk_ ?_
        refine WE.drop (b := bu) pk_ ?_
        exact end_1 rfl rfl (Env.le.rfl' _) ⟨rfl, rfl, _, rfl, fun hb => ⟨hC2, hi, by rw [hS]; exact hfit rfl, by rw [hC1]; exact fun h => absurd h (by omega), by rw [hC1]; exact fun h => absurd h (by omega), by rw [hC1]; exact fun h => absurd h (by omega), by rw [hC1]; exact fun _ => hbl hb, by rw [hC1]; exact fun h1 h2 h3 h4 h5 => by omega⟩⟩
      refine WC.condF rfl (beq_eq_false_iff_ne.2 k12) ?_
      refine gz_ ?_
      by_cases f15 : a.form = 15
      · rw [f15]
        refine gz_ ?_
        refine WE.drop (b := ba) pk_ ?_
        refine WE.drop (b := bu) pk_ ?_
        exact end_1 rfl rfl (Env.le.rfl' _) ⟨rfl, rfl, _, rfl, fun hb => ⟨hC2, hi, by rw [hS]; exact hfit rfl, by rw [hC1]; exact fun h => absurd h k2, by rw [hC1]; exact fun h => absurd h k5, by rw [hC1]; exact fun h => by omega, by rw [hC1]; exact fun h => absurd h k12, by rw [hC1]; exact fun _ _ _ _ _ _ => by have := of_decide_eq_true hb; omega⟩⟩
      · rw [show (a.form != 15) = true from bne_iff_ne.2 f15]
        refine gz_ ?_
        refine WE.drop (b := ba) pk_ ?_
        refine WE.drop (b := bu) pk_ ?_
        exact end_1 rfl rfl (Env.le.rfl' _) ⟨rfl, rfl, _, rfl, fun hb => ⟨hC2, hi, by rw [hS]; exact hfit rfl, by rw [hC1]; exact fun h => absurd h k2, by rw [hC1]; exact fun h => absurd h k5, by rw [hC1]; exact fun h => by omega, by rw [hC1]; exact fun h => absurd h k12, by rw [hC1]; exact fun _ _ _ _ _ h => absurd h f15⟩⟩
end Go.Proofs.YtdplhbmoidepgaaGreatDoor
namespace Go.Proofs.YtdplhbmoidepgaaGreatDoor
open Go Go.Sl
set_option maxRecDepth 10000
set_option maxHeartbeats 40000000

def sumBy {α : Type} (f : α → Nat) : List α → Nat
  | [] => 0
  | x :: l => f x + sumBy f l
theorem sumBy_append {α : Type} (f : α → Nat) : ∀ a b : List α, sumBy f (a ++ b) = sumBy f a + sumBy f b
  | [], b => by simp [sumBy]
  | x :: a, b => by simp only [List.cons_append, sumBy, sumBy_append f a b]; omega
theorem sumBy_take {α : Type} (f : α → Nat) {xs : List α} {i : Nat} {x : α} (hx : xs[i]? = some x) : sumBy f (xs.take (i + 1)) = sumBy f (xs.take i) + f x := by
  rw [List.take_add_one, hx, sumBy_append]; simp [sumBy]
theorem sumBy_mem {α : Type} (f : α → Nat) : ∀ {xs : List α} {x : α}, x ∈ xs → f x ≤ sumBy f xs
  | y :: xs, x, h => by
    rcases List.mem_cons.1 h with rfl | h
    · simp only [sumBy]; omega
    · have := sumBy_mem f h; simp only [sumBy]; omega
def wA (a : Att) : Nat := 32 + a.s.size + a.b.length
def wN (x : Nod) : Nat := sumBy wA x.atts
def wU (u : Uni) : Nat := sumBy wN u.nods
theorem isLight_ok {Γ : Env} {H : List Blk} {us : List Uni} {v : Value} (h : Arr Γ (UniC Γ) v us) (hfl : us.length ≤ 2147483647) (hf : ∀ u ∈ us, FitU u) :
   Spc Tryz.prog 42 #[v] Γ H (fun v Γ' H' => Γ = Γ' ∧ H = H' ∧ ∃ b, v = .bool b ∧ (b = true → sumBy wU us ≤ 1048576)) := by
  obtain ⟨a0, cap0, cells0, rfl, hcap0, hA0, hL0⟩ := h
  refine Spc.body1 Tryz.func42 rfl Tryz.ntmps42 rfl ?_
  refine gz_ ?_
  refine WC.loopE (fun m R' Γ' H' => ∃ i n, R' = [(3, .int .i64 ((n : Nat) : Int)), (10, .slice a0 us.length cap0), (11, .int .i64 (us.length : Int)), (12, .int .i64 ((i : Nat) : Int))] ∧ Γ = Γ' ∧ H = H' ∧ m = us.length - i ∧ i ≤ us.length ∧ n = sumBy wU (us.take i) ∧ n ≤ 1048576)
    ⟨0, 0, rfl, rfl, rfl, rfl, Nat.zero_le _, rfl, by decide⟩ sr_ (fun _ h => h) ?_
  rintro m R' Γ' H' ⟨i, n, rfl, rfl, rfl, rfl, hi, hn, hnb⟩
  rcases Nat.lt_or_ge i us.length with hlt | hge
  case inr =>
    have ei : i = us.length := by omega
    subst ei
    refine gz_ ?_
    refine WC.condF rfl (decide_eq_false (by omega)) ?_
    refine gz_ ?_
    rw [List.take_length] at hn
    exact end_1 rfl rfl (Env.le.rfl' _) ⟨rfl, rfl, true, rfl, fun _ => by omega⟩
  case inl =>
    obtain ⟨u, hu⟩ : ∃ u, us[i]? = some u := ⟨_, List.getElem?_eq_getElem hlt⟩
    obtain ⟨bb, oo, c, rfl, hP, hc⟩ := elemA hA0 hL0 (fun _ _ h => h.len) (w := 4) (by decide) hu
    obtain ⟨vn, rfl, a1, cap1, cells1, rfl, hcap1, hA1, hL1⟩ := hP
    obtain ⟨hf1, hf2⟩ := hf u (List.mem_of_getElem? hu)
    have hsu := sumBy_take wU hu
    refine gz_ ?_
    refine WC.condT rfl (by first | rfl | exact decide_eq_true (by omega) | (simp; (first | done | fail)) | (simp; omega)) ?_
    refine gz_ ?_
    (refine WL.alloc tab_ok rfl rfl ?_; intro b5)
    refine gz_ ?_
    refine WC.loopE (fun m R' Γ' H' => ∃ j n1, R' = [(3, .int .i64 ((n1 : Nat) : Int)), (10, .slice (some ⟨bb, oo, none⟩) us.length cap0), (11, .int .i64 (us.length : Int)), (12, .int .i64 ((i : Nat) : Int)), (17, .slice a1 u.nods.length cap1), (18, .int .i64 (u.nods.length : Int)), (19, .int .i64 ((j : Nat) : Int))] ∧ Γ = Γ' ∧ H = H' ∧ m = u.nods.length - j ∧ j ≤ u.nods.length ∧ n1 = n + sumBy wN (u.nods.take j) ∧ n1 ≤ 1048576)
      ⟨0, n, rfl, rfl, rfl, rfl, Nat.zero_le _, rfl, hnb⟩ sr_ sm_ ?_
    rintro m R' Γ' H' ⟨j, n1, rfl, rfl, rfl, rfl, hj, hn1, hnb1⟩
    rcases Nat.lt_or_ge j u.nods.length with hlt1 | hge1
    case inr =>
      have ej : j = u.nods.length := by omega
      subst ej
      refine gz_ ?_
      refine WC.condF rfl (decide_eq_false (by omega)) ?_
      refine gz_ ?_
      rw [List.take_length] at hn1
      have hwi : IntKind.i64.wrap ((i : Int) + 1) = (i : Int) + 1 := w_i64 (by omega) (by omega)
      exact WE.again ⟨i + 1, n1, rfl, rfl, rfl, rfl, hlt, by rw [hsu, hn1, hn]; rfl, hnb1⟩ (by omega) ⟨rfl, rfl, rfl, congrArg (fun z => some (Value.int .i64 z)) hwi, trivial⟩ sm_
    case inl =>
      obtain ⟨x, hx⟩ : ∃ x, u.nods[j]? = some x := ⟨_, List.getElem?_eq_getElem hlt1⟩
      obtain ⟨bb1, oo1, c, rfl, hP, hc1⟩ := elemA hA1 hL1 (fun _ _ h => h.len) (w := 4) (by decide) hx
      obtain ⟨vn, rfl, a2, cap2, cells2, rfl, hcap2, hA2, hL2⟩ := hP
      obtain ⟨hf3, hf4⟩ := hf2 x (List.mem_of_getElem? hx)
      have hsx := sumBy_take wN hx
      refine gz_ ?_
      refine WC.condT rfl (by first | rfl | exact decide_eq_true (by omega) | (simp; (first | done | fail)) | (simp; omega)) ?_
      refine gz_ ?_
      (refine WL.alloc tab_ok rfl rfl ?_; intro b7)
      refine gz_ ?_
      refine WC.loopE (fun m R' Γ' H' => ∃ k n2, R' = [(3, .int .i64 ((n2 : Nat) : Int)), (10, .slice (some ⟨bb, oo, none⟩) us.length cap0), (11, .int .i64 (us.length : Int)), (12, .int .i64 ((i : Nat) : Int)), (17, .slice (some ⟨bb1, oo1, none⟩) u.nods.length cap1), (18, .int .i64 (u.nods.length : Int)), (19, .int .i64 ((j : Nat) : Int)),
          (24, .slice a2 x.atts.length cap2), (25, .int .i64 (x.atts.length : Int)), (26, .int .i64 ((k : Nat) : Int))] ∧ Γ = Γ' ∧ H = H' ∧ m = x.atts.length - k ∧ k ≤ x.atts.length ∧ n2 = n1 + sumBy wA (x.atts.take k) ∧ n2 ≤ 1048576)
        ⟨0, n1, rfl, rfl, rfl, rfl, Nat.zero_le _, rfl, hnb1⟩ sr_ sm_ ?_
      rintro m R' Γ' H' ⟨k, n2, rfl, rfl, rfl, rfl, hk, hn2, hnb2⟩
      rcases Nat.lt_or_ge k x.atts.length with hlt2 | hge2
      case inr =>
        have ek : k = x.atts.length := by omega
        subst ek
        refine gz_ ?_
        refine WC.condF rfl (decide_eq_false (by omega)) ?_
        refine gz_ ?_
        rw [List.take_length] at hn2
        have hwi : IntKind.i64.wrap ((j : Int) + 1) = (j : Int) + 1 := w_i64 (by omega) (by omega)
        exact WE.again ⟨j + 1, n2, rfl, rfl, rfl, rfl, hlt1, by rw [hsx, hn2, hn1]; simp only [wN]; omega, hnb2⟩ (by omega) ⟨rfl, rfl, rfl, rfl, rfl, rfl, congrArg (fun z => some (Value.int .i64 z)) hwi, trivial⟩ sm_
      case inl =>
        obtain ⟨y, hy⟩ : ∃ y, x.atts[k]? = some y := ⟨_, List.getElem?_eq_getElem hlt2⟩
        obtain ⟨bb2, oo2, c, rfl, hP, hc2⟩ := elemA hA2 hL2 (fun _ _ h => h.len) (w := 6) (by decide) hy
        obtain ⟨vn, rfl, ⟨a3, cap3, rfl, -, -⟩, -⟩ := hP
        obtain ⟨hf5, hf6⟩ := hf4 y (List.mem_of_getElem? hy)
        have hsy := sumBy_take wA hy
        refine gz_ ?_
        refine WC.condT rfl (by first | rfl | exact decide_eq_true (by omega) | (simp; (first | done | fail)) | (simp; omega)) ?_
        refine gz_ ?_
        (refine WL.alloc tab_ok rfl rfl ?_; intro b9)
        refine gz_ ?_
        rw [show IntKind.i64.wrap (IntKind.i64.wrap (IntKind.i64.wrap ((n2 : Int) + 32) + (y.s.size : Int)) + (y.b.length : Int)) = ((n2 + wA y : Nat) : Int) from by
          rw [w_i64 (x := (n2 : Int) + 32) (by omega) (by omega), w_i64 (x := (n2 : Int) + 32 + (y.s.size : Int)) (by omega) (by omega), w_i64 (by omega) (by omega)]; unfold wA; omega]
        by_cases hb : 1048576 < n2 + wA y
        · refine WC.condT rfl (decide_eq_true (by omega)) ?_
          refine gz_ ?_
          refine WE.drop (b := b9) pk_ ?_
          exact end_1 rfl rfl (Env.le.rfl' _) ⟨rfl, rfl, false, rfl, fun h => by cases h⟩
        · refine WC.condF rfl (decide_eq_false (by omega)) ?_
          refine gz_ ?_
          have hwi : IntKind.i64.wrap ((k : Int) + 1) = (k : Int) + 1 := w_i64 (by omega) (by omega)
          exact WE.again ⟨k + 1, n2 + wA y, rfl, rfl, rfl, rfl, hlt2, by rw [hsy, hn2]; omega, by omega⟩ (by omega) ⟨rfl, rfl, rfl, rfl, rfl, rfl, rfl, rfl, rfl, congrArg (fun z => some (Value.int .i64 z)) hwi, trivial⟩ sm_

/-- The depth behind an entry. -/
def stepD (x : Nod) (d : Int) : Int := if x.tag = 0 then d - 1 else if x.ch then d + 1 else d
def aftL : List Nod → Int → Nat → Nat
  | [], _, i => i
  | x :: xs, d, i => if stepD x d ≤ 0 then i + 1 else aftL xs (stepD x d) (i + 1)
/-- The number of the entry behind an entry and its children. -/
def aft (l : List Nod) (i : Nat) : Nat := aftL (l.drop i) 0 i
theorem aftL_le : ∀ (l : List Nod) (d : Int) (i : Nat), i ≤ aftL l d i ∧ aftL l d i ≤ i + l.length
  | [], _, i => by simp [aftL]
  | x :: xs, d, i => by
    simp only [aftL, List.length_cons]
    split
    · omega
    · have := aftL_le xs (stepD x d) (i + 1); omega
theorem aft_le (l : List Nod) {i : Nat} (h : i ≤ l.length) : i ≤ aft l i ∧ aft l i ≤ l.length := by
  have := aftL_le (l.drop i) 0 i
  rw [List.length_drop] at this
  unfold aft; omega
theorem After_ok {Γ : Env} {H : List Blk} {xs : List Nod} {v : Value} {i0 : Nat} (h : Arr Γ (NodC Γ) v xs) (hl : xs.length ≤ 2147483647) (hi0 : i0 ≤ xs.length) :
   Spc Tryz.prog 43 #[v, .int .i64 (i0 : Int)] Γ H (fun v Γ' H' => Γ = Γ' ∧ H = H' ∧ v = .int .i64 ((aft xs i0 : Nat) : Int)) := by
  obtain ⟨a0, cap0, cells0, rfl, hcap0, hA0, hL0⟩ := h
  refine Spc.body2 Tryz.func43 rfl Tryz.ntmps43 rfl ?_
  refine gz_ ?_
  refine WC.loopE (fun m R' Γ' H' => ∃ i d, R' = [(0, .slice a0 xs.length cap0), (1, .int .i64 ((i : Nat) : Int)), (5, .int .i64 d)] ∧ Γ = Γ' ∧ H = H' ∧ m = xs.length - i ∧ i ≤ xs.length ∧ -(i : Int) ≤ d ∧ d ≤ i ∧ aft xs i0 = aftL (xs.drop i) d i)
    ⟨i0, 0, rfl, rfl, rfl, rfl, hi0, by omega, by omega, rfl⟩ sr_ (fun _ h => h) ?_
  rintro m R' Γ' H' ⟨i, d, rfl, rfl, rfl, rfl, hi, hd1, hd2, hr⟩
  rcases Nat.lt_or_ge i xs.length with hlt | hge
  case inr =>
    have ei : i = xs.length := by omega
    subst ei
    refine gz_ ?_
    refine WC.condF rfl (decide_eq_false (by omega)) ?_
    refine gz_ ?_
    rw [List.drop_length] at hr
    exact end_1 rfl rfl (Env.le.rfl' _) ⟨rfl, rfl, by rw [hr]; rfl⟩
  case inl =>
    obtain ⟨x, hx⟩ : ∃ x, xs[i]? = some x := ⟨_, List.getElem?_eq_getElem hlt⟩
    obtain ⟨bb, oo, c, rfl, hP, hc⟩ := elemA hA0 hL0 (fun _ _ h => h.len) (w := 4) (by decide) hx
    obtain ⟨vn, rfl, -⟩ := hP
    have hc0 := hc.1
    have hc1 := hc.2.1
    have hdr : xs.drop i = x :: xs.drop (i + 1) := by
      rw [List.drop_eq_getElem_cons hlt]
      rw [List.getElem?_eq_getElem hlt] at hx; injection hx with hx; rw [hx]
    rw [hdr] at hr
    refine gz_ ?_
    refine WC.condT rfl (by first | rfl | exact decide_eq_true (by omega) | (simp; (first | done | fail)) | (simp; omega)) ?_
    refine gz_ ?_
    refine WC.cutM (fun R' Γ' H' => R' = [(0, .slice (some ⟨bb, oo, none⟩) xs.length cap0), (1, .int .i64 ((i : Nat) : Int)), (5, .int .i64 (stepD x d))] ∧ Γ = Γ' ∧ H = H') ?_ ?_
    · by_cases ht : x.tag = 0
      · have hs : stepD x d = d - 1 := if_pos ht
        refine WC.condT rfl (beq_iff_eq.2 ht) ?_
        refine gz_ ?_
        exact WE.mid ⟨rfl, rfl, rfl⟩ ⟨rfl, rfl, by rw [hs]; exact congrArg (fun z => some (Value.int .i64 z)) (w_i64 (by omega) (by omega)), trivial⟩ (fun _ h => h)
      · refine WC.condF rfl (beq_eq_false_iff_ne.2 ht) ?_
        refine gz_ ?_
        cases hch : x.ch with
        | true =>
          have hs : stepD x d = d + 1 := by unfold stepD; rw [if_neg ht, if_pos hch]
          refine gz_ ?_
          exact WE.mid ⟨rfl, rfl, rfl⟩ ⟨rfl, rfl, by rw [hs]; exact congrArg (fun z => some (Value.int .i64 z)) (w_i64 (by omega) (by omega)), trivial⟩ (fun _ h => h)
        | false =>
          have hs : stepD x d = d := by unfold stepD; rw [if_neg ht, if_neg (by rw [hch]; decide)]
          refine gz_ ?_
          exact WE.mid ⟨rfl, rfl, rfl⟩ ⟨rfl, rfl, by rw [hs]; rfl, trivial⟩ (fun _ h => h)
    rintro R' Γ' H' ⟨rfl, rfl, rfl⟩
    have hsb : d - 1 ≤ stepD x d ∧ stepD x d ≤ d + 1 := by
      unfold stepD; repeat' split
      all_goals omega
    have hwi : IntKind.i64.wrap ((i : Int) + 1) = (i : Int) + 1 := w_i64 (by omega) (by omega)
    refine gz_ ?_
    by_cases hle : stepD x d ≤ 0
    · refine WC.condT rfl (decide_eq_true hle) ?_
      refine gz_ ?_
      rw [hwi]
      exact end_1 rfl rfl (Env.le.rfl' _) ⟨rfl, rfl, by rw [hr, aftL, if_pos hle]; rfl⟩
    · refine WC.condF rfl (decide_eq_false hle) ?_
      refine gz_ ?_
      exact WE.again ⟨i + 1, stepD x d, rfl, rfl, rfl, rfl, hlt, by omega, by omega, by rw [hr, aftL, if_neg hle]⟩ (by omega) ⟨rfl, congrArg (fun z => some (Value.int .i64 z)) hwi, rfl, trivial⟩ (fun _ h => h)
end Go.Proofs.YtdplhbmoidepgaaGreatDoor
namespace Go.Sl
open Go
section
variable {P : Program} {Q : Post} {n : Nat} {D : List Deferred} {R : Regs} {Γ Γ2 : Env} {H : List Blk}
theorem St.anti (hle : Γ.le Γ2) {w : World} (h : St Γ2 H w) : St Γ H w where
  imm b o e := h.imm b o (hle.imm b o e)
  own := h.own
  nodup := h.nodup
  apart b o hm := by
    have h1 := h.apart b o hm
    cases e : Γ.imm b with
    | none => rfl
    | some o' => rw [hle.imm b o' e] at h1; cases h1
  os := by rw [h.os]; exact hle.os
  tape := by rw [h.tape]; exact hle.tape
  output := by rw [h.output]; exact hle.output
theorem WE.anti {e : Exit} (hle : Γ.le Γ2) (k : WE Q e n D R Γ H) : WE Q e n D R Γ2 H := ⟨fun a w hs => k.go a w (hs.world (St.anti hle hs.st))⟩
end
end Go.Sl
namespace Go.Proofs.YtdplhbmoidepgaaGreatDoor
open Go Go.Sl
set_option maxRecDepth 10000
set_option maxHeartbeats 40000000
/-- As far as a region goes. -/
theorem gs_ {p q : Prop} (k : q) (h : Wrp q → p := by intro k; (repeat (refine WL.g ?_; first | refine WL.nil ?_ | refine WL.run tab_ok rfl rfl ?_ | (refine WL.gLoad ?_; first | refine WL.ld tab_ok rfl rfl rfl pk_ rfl rfl ?_ | refine WL.ldA tab_ok rfl rfl rfl pk_ (by (repeat (first | apply Cut.nil | apply Cut.take | apply Cut.drop)); (first | done | fail)) rfl ?_ | refine WL.ldI tab_ok rfl rfl rfl (by assumption) rfl ?_ | refine WL.ldR tab_ok rfl rfl rfl (by (repeat (first | assumption | apply Rd.cons)); (first | done | fail)) rfl ?_ | refine WL.ldAI tab_ok rfl rfl rfl (by assumption) rfl rfl ?_) | (refine WL.gStore ?_; refine WL.st tab_ok rfl rfl rfl pk_ (by (repeat (first | apply Spl.nil | apply Spl.put | apply Spl.skip)); (first | done | fail)) rfl rfl ?_) | (refine WL.gIdx ?_; refine WL.idx tab_ok rfl rfl rfl rfl (by omega) (by omega) rfl ?_) | (refine WL.gBuild ?_; refine WL.build tab_ok rfl spi_ rfl ?_) | (refine WL.gSlice ?_; first | refine WL.slLo tab_ok rfl rfl rfl rfl (by omega) (by omega) (by omega) rfl ?_ | refine WL.slHi tab_ok rfl rfl rfl rfl (by omega) (by omega) rfl ?_ | refine WL.slLH tab_ok rfl rfl rfl rfl rfl (by omega) (by omega) (by omega) rfl ?_) | (refine WL.gBin ?_; first | refine WL.pure tab_ok (evalP_shl rfl rfl (by omega)) rfl ?_ | refine WL.pure tab_ok (evalP_shr rfl rfl (by omega)) rfl ?_) | refine WL.pure tab_ok rfl rfl ?_ | (refine WL.gGuard ?_; first | refine WL.yes rfl rfl rfl ?_ | refine WL.no rfl rfl rfl rfl rfl ?_ | refine WL.noU rfl rfl rfl rfl ?_))); exact k.out) : p := h ⟨k⟩

structure OkNod (v : Int) (w : Bool) (z : Int) (x : Nod) : Prop where
  t0 : 0 ≤ x.tag
  t1 : x.tag ≤ 65535
  na : x.atts.length ≤ 50
  nul : x.tag = 0 → x.ch = false ∧ x.sib = false ∧ x.atts = []
  sib : x.sib = true → x.ch = true
  att : ∀ a ∈ x.atts, AttF v w z a ∧ a.s.size ≤ 4096 ∧ a.b.length ≤ 4096
structure OkUni (u : Uni) : Prop where
  v2 : 2 ≤ u.vers
  v5 : u.vers ≤ 5
  wd : u.wide = true → 3 ≤ u.vers
  sz : u.size = 4 ∨ u.size = 8
  n0 : 0 < u.nods.length
  n1 : u.nods.length ≤ 4096
  light : wU u ≤ 1048576
  top : ∀ x, u.nods[0]? = some x → x.tag ≠ 0 ∧ x.sib = false
  nod : ∀ x ∈ u.nods, OkNod u.vers u.wide u.size x
theorem isUnit_ok {Γ : Env} {H : List Blk} {u : Uni} {c : List Value} (h : UniC Γ u c) (hf : FitU u) :
   Spc Tryz.prog 24 #[.agg c.toArray] Γ H (fun v Γ' H' => Γ = Γ' ∧ H = H' ∧ ∃ b, v = .bool b ∧ (b = true → OkUni u)) := by
  have hU := h
  obtain ⟨vn, rfl, a0, cap0, cells0, rfl, hcap0, hA0, hL0⟩ := h
  obtain ⟨hf1, hf2⟩ := hf
  refine Spc.body1 Tryz.func24 rfl Tryz.ntmps24 rfl ?_
  refine WC.seq ?_
  refine WC.region ?_
  (refine WL.box rfl spi_ rfl ?_; intro bu)
  refine gs_ ?_
  refine WE.then_ ?_
  refine WC.seq ?_
  refine WC.cutM (fun R' Γ' H' => R' = [(1, .pointer (some ⟨bu, 0, none⟩))] ∧ Γ = Γ' ∧ H' = (bu, cel [.int .i64 u.vers, .bool u.wide, .int .i64 u.size, .slice a0 u.nods.length cap0] 58) :: H ∧
      (2 ≤ u.vers ∧ u.vers ≤ 5 ∧ (u.wide = true → 3 ≤ u.vers) ∧ (u.size = 4 ∨ u.size = 8) ∧ 0 < u.nods.length ∧ u.nods.length ≤ 4096)) ?_ ?_
  -- GEN
  · refine gz_ ?_
    cases h1 : decide (u.vers < 2) with
    | true =>
      refine gz_ ?_
      refine WE.drop (b := bu) pk_ ?_
      exact end_1 rfl rfl (Env.le.rfl' _) ⟨rfl, rfl, false, rfl, fun h => by cases h⟩
    | false =>
      refine gz_ ?_
      cases h2 : decide ((5 : Int) < u.vers) with
      | true =>
        refine gz_ ?_
        refine WE.drop (b := bu) pk_ ?_
        exact end_1 rfl rfl (Env.le.rfl' _) ⟨rfl, rfl, false, rfl, fun h => by cases h⟩
      | false =>
        refine gz_ ?_
        cases hw : u.wide with
        | true =>
          refine gz_ ?_
          cases h3 : decide (u.vers < 3) with
          | true =>
            refine gz_ ?_
            refine WE.drop (b := bu) pk_ ?_
            exact end_1 rfl rfl (Env.le.rfl' _) ⟨rfl, rfl, false, rfl, fun h => by cases h⟩
          | false =>
            refine gz_ ?_
            have g3 := of_decide_eq_false h3
            by_cases h4 : u.size = 4
            · have hsz : u.size = 4 ∨ u.size = 8 := .inl h4
              rw [show (u.size != 4) = false from by rw [h4]; rfl]
              refine gz_ ?_
              cases h6 : ((u.nods.length : Int) == 0) with
              | true =>
                refine gz_ ?_
                refine WE.drop (b := bu) pk_ ?_
                exact end_1 rfl rfl (Env.le.rfl' _) ⟨rfl, rfl, false, rfl, fun h => by cases h⟩
              | false =>
                refine gz_ ?_
                cases h7 : decide ((4096 : Int) < (u.nods.length : Int)) with
                | true =>
                  refine gz_ ?_
                  refine WE.drop (b := bu) pk_ ?_
                  exact end_1 rfl rfl (Env.le.rfl' _) ⟨rfl, rfl, false, rfl, fun h => by cases h⟩
                | false =>
                  refine gz_ ?_
                  have g1 := of_decide_eq_false h1
                  have g2 := of_decide_eq_false h2
                  have g7 := of_decide_eq_false h7
                  have g6 := ne_of_beq_false h6
                  exact WE.mid ⟨rfl, rfl, rfl, by omega, by omega, fun _ => by omega, hsz, by omega, by omega⟩ sr_ (fun _ h => h)
            · rw [show (u.size != 4) = true from bne_iff_ne.2 h4]
              refine gz_ ?_
              by_cases h8 : u.size = 8
              · have hsz : u.size = 4 ∨ u.size = 8 := .inr h8
                rw [show (u.size != 8) = false from by rw [h8]; rfl]
                refine gz_ ?_
                cases h6 : ((u.nods.length : Int) == 0) with
                | true =>
                  refine gz_ ?_
                  refine WE.drop (b := bu) pk_ ?_
                  exact end_1 rfl rfl (Env.le.rfl' _) ⟨rfl, rfl, false, rfl, fun h => by cases h⟩
                | false =>
                  refine gz_ ?_
                  cases h7 : decide ((4096 : Int) < (u.nods.length : Int)) with
                  | true =>
                    refine gz_ ?_
                    refine WE.drop (b := bu) pk_ ?_
                    exact end_1 rfl rfl (Env.le.rfl' _) ⟨rfl, rfl, false, rfl, fun h => by cases h⟩
                  | false =>
                    refine gz_ ?_
                    have g1 := of_decide_eq_false h1
                    have g2 := of_decide_eq_false h2
                    have g7 := of_decide_eq_false h7
                    have g6 := ne_of_beq_false h6
                    exact WE.mid ⟨rfl, rfl, rfl, by omega, by omega, fun _ => by omega, hsz, by omega, by omega⟩ sr_ (fun _ h => h)
              · rw [show (u.size != 8) = true from bne_iff_ne.2 h8]
                refine gz_ ?_
                refine WE.drop (b := bu) pk_ ?_
                exact end_1 rfl rfl (Env.le.rfl' _) ⟨rfl, rfl, false, rfl, fun h => by cases h⟩
        | false =>
          refine gz_ ?_
          by_cases h4 : u.size = 4
          · have hsz : u.size = 4 ∨ u.size = 8 := .inl h4
            rw [show (u.size != 4) = false from by rw [h4]; rfl]
            refine gz_ ?_
            cases h6 : ((u.nods.length : Int) == 0) with
            | true =>
              refine gz_ ?_
              refine WE.drop (b := bu) pk_ ?_
              exact end_1 rfl rfl (Env.le.rfl' _) ⟨rfl, rfl, false, rfl, fun h => by cases h⟩
            | false =>
              refine gz_ ?_
              cases h7 : decide ((4096 : Int) < (u.nods.length : Int)) with
              | true =>
                refine gz_ ?_
                refine WE.drop (b := bu) pk_ ?_
                exact end_1 rfl rfl (Env.le.rfl' _) ⟨rfl, rfl, false, rfl, fun h => by cases h⟩
              | false =>
                refine gz_ ?_
                have g1 := of_decide_eq_false h1
                have g2 := of_decide_eq_false h2
                have g7 := of_decide_eq_false h7
                have g6 := ne_of_beq_false h6
                exact WE.mid ⟨rfl, rfl, rfl, by omega, by omega, fun h => (by cases h), hsz, by omega, by omega⟩ sr_ (fun _ h => h)
          · rw [show (u.size != 4) = true from bne_iff_ne.2 h4]
            refine gz_ ?_
            by_cases h8 : u.size = 8
            · have hsz : u.size = 4 ∨ u.size = 8 := .inr h8
              rw [show (u.size != 8) = false from by rw [h8]; rfl]
              refine gz_ ?_
              cases h6 : ((u.nods.length : Int) == 0) with
              | true =>
                refine gz_ ?_
                refine WE.drop (b := bu) pk_ ?_
                exact end_1 rfl rfl (Env.le.rfl' _) ⟨rfl, rfl, false, rfl, fun h => by cases h⟩
              | false =>
                refine gz_ ?_
                cases h7 : decide ((4096 : Int) < (u.nods.length : Int)) with
                | true =>
                  refine gz_ ?_
                  refine WE.drop (b := bu) pk_ ?_
                  exact end_1 rfl rfl (Env.le.rfl' _) ⟨rfl, rfl, false, rfl, fun h => by cases h⟩
                | false =>
                  refine gz_ ?_
                  have g1 := of_decide_eq_false h1
                  have g2 := of_decide_eq_false h2
                  have g7 := of_decide_eq_false h7
                  have g6 := ne_of_beq_false h6
                  exact WE.mid ⟨rfl, rfl, rfl, by omega, by omega, fun h => (by cases h), hsz, by omega, by omega⟩ sr_ (fun _ h => h)
            · rw [show (u.size != 8) = true from bne_iff_ne.2 h8]
              refine gz_ ?_
              refine WE.drop (b := bu) pk_ ?_
              exact end_1 rfl rfl (Env.le.rfl' _) ⟨rfl, rfl, false, rfl, fun h => by cases h⟩
  rintro R' Γ' H' ⟨rfl, rfl, rfl, hv2, hv5, hwd, hsz, hn0, hn1⟩
  have hArr : Arr Γ (NodC Γ) (.slice a0 u.nods.length cap0) u.nods := ⟨_, _, _, rfl, hcap0, hA0, hL0⟩
  obtain ⟨x0, hx0⟩ : ∃ x, u.nods[0]? = some x := ⟨_, List.getElem?_eq_getElem hn0⟩
  refine WE.then_ ?_
  refine WC.seq ?_
  refine WC.cutM (fun R' Γ' H' => R' = [(1, .pointer (some ⟨bu, 0, none⟩))] ∧ Γ = Γ' ∧ H' = (bu, cel [.int .i64 u.vers, .bool u.wide, .int .i64 u.size, .slice a0 u.nods.length cap0] 58) :: H ∧
      (wU u ≤ 1048576 ∧ ∀ x, u.nods[0]? = some x → x.tag ≠ 0 ∧ x.sib = false)) ?_ ?_
  · obtain ⟨bb, oo, c, rfl, hP, hc⟩ := elemA hA0 hL0 (fun _ _ h => h.len) (w := 4) (by decide) hx0
    obtain ⟨vn, rfl, -⟩ := hP
    have hc0 := hc.1
    have hc1 := hc.2.1
    have hc2 := hc.2.2.1
    refine gz_ ?_
    refine WC.draw 28 (.take 0 (.one 1 (.one 2 (.take 3 (.take 4 (.take 5 (.take 6 (.take 7 (.take 8 (.take 9 (.take 10 (.take 11 (.take 12 (.take 13 (.take 14 (.take 15 (.take 16 (.take 17 (.take 18 (.take 19 (.take 20 (.take 21 (.take 23 (.take 24 (.take 25 (.one 22 (.take 26 (.take 27 .done)))))))))))))))))))))))))))) ((bu, _) :: []) mixed (by (repeat (first | exact trivial | refine ⟨⟨_, pk_⟩, ?_⟩ | exact subH_self _ | apply subH_cons)); (first | done | fail)) (by decide +kernel) ?_
    refine dz_ ?_
    (refine WL.lit tab_ok rfl rfl rfl rfl rfl rfl rfl spi_ rfl ?_; intro bs)
    refine WL.freeze (b := bs) pk_ (fun hle2 => ?_)
    refine dz_ ?_
    have hA1 : Arr (Γ.add bs (cel [.int .i64 u.vers, .bool u.wide, .int .i64 u.size, .slice (some ⟨bb, oo, none⟩) u.nods.length cap0] 58)) (UniC (Γ.add bs (cel [.int .i64 u.vers, .bool u.wide, .int .i64 u.size, .slice (some ⟨bb, oo, none⟩) u.nods.length cap0] 58))) (.slice (some ⟨bs, 0, none⟩) 1 1) [u] := by
      obtain ⟨a, cap, e1, e2, e3⟩ := im_add (Γ := Γ) (b := bs) (n := 1) (cap := 1) (l := [.int .i64 u.vers, .bool u.wide, .int .i64 u.size, .slice (some ⟨bb, oo, none⟩) u.nods.length cap0]) (sp := []) (T := 58) (Nat.le_refl _)
      exact ⟨a, cap, _, e1, e2, e3, LisC.one (hU.mono hle2)⟩
    refine WL.call rfl Tryz.call42 rfl rfl (by exact (isLight_ok hA1 (by simp) (fun u' hm => by rw [List.mem_singleton] at hm; subst hm; exact ⟨hf1, hf2⟩))) ?_
    rintro _ _ _ - ⟨rfl, rfl, b1, rfl, hb1⟩
    refine dz_ ?_
    cases b1 with
    | false =>
      refine dz_ ?_
      refine gz_ ?_
      refine WE.drop (b := bu) pk_ ?_
      refine WE.anti hle2 ?_
      exact end_1 rfl rfl (Env.le.rfl' _) ⟨rfl, rfl, false, rfl, fun h => by cases h⟩
    | true =>
      have hlight : wU u ≤ 1048576 := by have := hb1 rfl; simpa [sumBy] using this
      refine dz_ ?_
      by_cases ht : x0.tag = 0
      · rw [ht]
        refine dz_ ?_
        refine gz_ ?_
        refine WE.drop (b := bu) pk_ ?_
        refine WE.anti hle2 ?_
        exact end_1 rfl rfl (Env.le.rfl' _) ⟨rfl, rfl, false, rfl, fun h => by cases h⟩
      · rw [show (x0.tag == 0) = false from beq_eq_false_iff_ne.2 ht]
        refine dz_ ?_
        cases hs : x0.sib with
        | true =>
          refine dz_ ?_
          refine gz_ ?_
          refine WE.drop (b := bu) pk_ ?_
          refine WE.anti hle2 ?_
          exact end_1 rfl rfl (Env.le.rfl' _) ⟨rfl, rfl, false, rfl, fun h => by cases h⟩
        | false =>
          refine dz_ ?_
          refine WL.call rfl Tryz.call43 rfl rfl (by exact (After_ok (i0 := 0) (hArr.mono hle2 (fun _ _ h => h.mono hle2)) hf1 (Nat.zero_le _))) ?_
          rintro _ _ _ - ⟨rfl, rfl, rfl⟩
          refine dz_ ?_
          refine gz_ ?_
          cases h9 : (((aft u.nods 0 : Nat) : Int) != (u.nods.length : Int)) with
          | true =>
            refine gz_ ?_
            refine WE.drop (b := bu) pk_ ?_
            refine WE.anti hle2 ?_
            exact end_1 rfl rfl (Env.le.rfl' _) ⟨rfl, rfl, false, rfl, fun h => by cases h⟩
          | false =>
            refine gz_ ?_
            refine WE.anti hle2 ?_
            exact WE.mid ⟨rfl, rfl, rfl, hlight, fun x hx => by rw [hx0] at hx; injection hx with hx; subst hx; exact ⟨ht, hs⟩⟩ sr_ (fun _ h => h)
  rintro R' Γ' H' ⟨rfl, rfl, rfl, hlight, htop⟩
  refine gz_ ?_
  refine WC.loopE (fun m R' Γ' H' => ∃ i d, R' = [(1, .pointer (some ⟨bu, 0, none⟩)), (3, .int .i64 d), (76, .slice a0 u.nods.length cap0), (77, .int .i64 (u.nods.length : Int)), (78, .int .i64 ((i : Nat) : Int))] ∧ Γ = Γ' ∧ H' = (bu, cel [.int .i64 u.vers, .bool u.wide, .int .i64 u.size, .slice a0 u.nods.length cap0] 58) :: H ∧ m = u.nods.length - i ∧ i ≤ u.nods.length ∧ -(i : Int) ≤ d ∧ d ≤ i ∧ ∀ y ∈ u.nods.take i, OkNod u.vers u.wide u.size y)
    ⟨0, 0, rfl, rfl, rfl, rfl, Nat.zero_le _, by omega, by omega, fun y hy => by simp at hy⟩ sr_ (fun _ h => h) ?_
  rintro m R' Γ' H' ⟨i, d, rfl, rfl, rfl, rfl, hi, hd1, hd2, hok⟩
  rcases Nat.lt_or_ge i u.nods.length with hlt | hge
  case inr =>
    have ei : i = u.nods.length := by omega
    subst ei
    refine gz_ ?_
    refine WC.condF rfl (decide_eq_false (by omega)) ?_
    refine gz_ ?_
    rw [List.take_length] at hok
    refine WE.drop (b := bu) pk_ ?_
    exact end_1 rfl rfl (Env.le.rfl' _) ⟨rfl, rfl, _, rfl, fun _ => ⟨hv2, hv5, hwd, hsz, hn0, hn1, hlight, htop, hok⟩⟩
  case inl =>
    obtain ⟨x, hx⟩ : ∃ x, u.nods[i]? = some x := ⟨_, List.getElem?_eq_getElem hlt⟩
    obtain ⟨bb, oo, c, rfl, hP, hc⟩ := elemA hA0 hL0 (fun _ _ h => h.len) (w := 4) (by decide) hx
    obtain ⟨vn, rfl, a1, cap1, cells1, rfl, hcap1, hA1, hL1⟩ := hP
    obtain ⟨hf3, hf4⟩ := hf2 x (List.mem_of_getElem? hx)
    have hwi : IntKind.i64.wrap ((i : Int) + 1) = (i : Int) + 1 := w_i64 (by omega) (by omega)
    refine gz_ ?_
    refine WC.condT rfl (by first | rfl | exact decide_eq_true (by omega) | (simp; (first | done | fail)) | (simp; omega)) ?_
    refine gz_ ?_
    (refine WL.alloc tab_ok rfl rfl ?_; intro b5)
    refine gs_ ?_
    refine WE.then_ ?_
    refine WC.seq ?_
    refine WC.cutM (fun R' Γ' H' => R' = [(1, .pointer (some ⟨bu, 0, none⟩)), (3, .int .i64 d), (5, .pointer (some ⟨b5, 0, none⟩)), (76, .slice (some ⟨bb, oo, none⟩) u.nods.length cap0), (77, .int .i64 (u.nods.length : Int)), (78, .int .i64 ((i : Nat) : Int))] ∧ Γ = Γ' ∧ H' = (b5, cel [.int .i64 x.tag, .bool x.ch, .bool x.sib, .slice a1 x.atts.length cap1] 61) :: (bu, cel [.int .i64 u.vers, .bool u.wide, .int .i64 u.size, .slice (some ⟨bb, oo, none⟩) u.nods.length cap0] 58) :: H) ?_ ?_
    · refine gz_ ?_
      cases h0 : decide ((0 : Int) < ((i : Nat) : Int)) with
      | false =>
        refine gz_ ?_
        exact WE.mid ⟨rfl, rfl, rfl⟩ sr_ sm_
      | true =>
        refine gz_ ?_
        refine WL.call rfl Tryz.call44 rfl rfl (by exact (isTop_ok x.tag)) ?_
        rintro _ _ _ - ⟨rfl, rfl, bl, rfl⟩
        refine gz_ ?_
        cases bl with
        | true =>
          refine gz_ ?_
          refine WE.drop (b := b5) pk_ ?_
          refine WE.drop (b := bu) pk_ ?_
          exact end_1 rfl rfl (Env.le.rfl' _) ⟨rfl, rfl, false, rfl, fun h => by cases h⟩
        | false =>
          refine gz_ ?_
          exact WE.mid ⟨rfl, rfl, rfl⟩ sr_ sm_
    rintro R' Γ' H' ⟨rfl, rfl, rfl⟩
    refine WE.then_ ?_
    refine WC.seq ?_
    refine WC.cutM (fun R' Γ' H' => R' = [(1, .pointer (some ⟨bu, 0, none⟩)), (3, .int .i64 (stepD x d)), (5, .pointer (some ⟨b5, 0, none⟩)), (76, .slice (some ⟨bb, oo, none⟩) u.nods.length cap0), (77, .int .i64 (u.nods.length : Int)), (78, .int .i64 ((i : Nat) : Int))] ∧ Γ = Γ' ∧ H' = (b5, cel [.int .i64 x.tag, .bool x.ch, .bool x.sib, .slice a1 x.atts.length cap1] 61) :: (bu, cel [.int .i64 u.vers, .bool u.wide, .int .i64 u.size, .slice (some ⟨bb, oo, none⟩) u.nods.length cap0] 58) :: H) ?_ ?_
    · refine gz_ ?_
      by_cases ht : x.tag = 0
      · have hs : stepD x d = d - 1 := if_pos ht
        refine WC.condT rfl (beq_iff_eq.2 ht) ?_
        refine gz_ ?_
        exact WE.mid ⟨rfl, rfl, rfl⟩ ⟨rfl, by rw [hs]; exact congrArg (fun z => some (Value.int .i64 z)) (w_i64 (by omega) (by omega)), rfl, rfl, rfl, rfl, trivial⟩ (fun _ h => h)
      · refine WC.condF rfl (beq_eq_false_iff_ne.2 ht) ?_
        refine gz_ ?_
        cases hch : x.ch with
        | true =>
          have hs : stepD x d = d + 1 := by unfold stepD; rw [if_neg ht, if_pos hch]
          refine gz_ ?_
          exact WE.mid ⟨rfl, rfl, rfl⟩ ⟨rfl, by rw [hs]; exact congrArg (fun z => some (Value.int .i64 z)) (w_i64 (by omega) (by omega)), rfl, rfl, rfl, rfl, trivial⟩ (fun _ h => h)
        | false =>
          have hs : stepD x d = d := by unfold stepD; rw [if_neg ht, if_neg (by rw [hch]; decide)]
          refine gz_ ?_
          exact WE.mid ⟨rfl, rfl, rfl⟩ ⟨rfl, by rw [hs]; rfl, rfl, rfl, rfl, rfl, trivial⟩ (fun _ h => h)
    rintro R' Γ' H' ⟨rfl, rfl, rfl⟩
    have hsb : d - 1 ≤ stepD x d ∧ stepD x d ≤ d + 1 := by
      unfold stepD; repeat' split
      all_goals omega
    generalize stepD x d = d2 at *
    refine WE.then_ ?_
    refine WC.seq ?_
    refine WC.cutM (fun R' Γ' H' => R' = [(1, .pointer (some ⟨bu, 0, none⟩)), (3, .int .i64 d2), (5, .pointer (some ⟨b5, 0, none⟩)), (76, .slice (some ⟨bb, oo, none⟩) u.nods.length cap0), (77, .int .i64 (u.nods.length : Int)), (78, .int .i64 ((i : Nat) : Int))] ∧ Γ = Γ' ∧ H' = (b5, cel [.int .i64 x.tag, .bool x.ch, .bool x.sib, .slice a1 x.atts.length cap1] 61) :: (bu, cel [.int .i64 u.vers, .bool u.wide, .int .i64 u.size, .slice (some ⟨bb, oo, none⟩) u.nods.length cap0] 58) :: H ∧ (0 ≤ x.tag ∧ x.tag ≤ 65535 ∧ x.atts.length ≤ 50 ∧ (x.tag = 0 → x.ch = false ∧ x.sib = false ∧ x.atts = []) ∧ (x.sib = true → x.ch = true))) ?_ ?_
    · refine gz_ ?_
      cases h1 : decide (x.tag < 0) with
      | true =>
        refine gz_ ?_
        refine WE.drop (b := b5) pk_ ?_
        refine WE.drop (b := bu) pk_ ?_
        exact end_1 rfl rfl (Env.le.rfl' _) ⟨rfl, rfl, false, rfl, fun h => by cases h⟩
      | false =>
        refine gz_ ?_
        cases h2 : decide ((65535 : Int) < x.tag) with
        | true =>
          refine gz_ ?_
          refine WE.drop (b := b5) pk_ ?_
          refine WE.drop (b := bu) pk_ ?_
          exact end_1 rfl rfl (Env.le.rfl' _) ⟨rfl, rfl, false, rfl, fun h => by cases h⟩
        | false =>
          refine gz_ ?_
          cases h3 : decide ((50 : Int) < (x.atts.length : Int)) with
          | true =>
            refine gz_ ?_
            refine WE.drop (b := b5) pk_ ?_
            refine WE.drop (b := bu) pk_ ?_
            exact end_1 rfl rfl (Env.le.rfl' _) ⟨rfl, rfl, false, rfl, fun h => by cases h⟩
          | false =>
            refine gz_ ?_
            by_cases ht : x.tag = 0
            · rw [show (x.tag == 0) = true from beq_iff_eq.2 ht]
              refine gz_ ?_
              cases hch : x.ch with
              | true =>
                refine gz_ ?_
                refine WE.drop (b := b5) pk_ ?_
                refine WE.drop (b := bu) pk_ ?_
                exact end_1 rfl rfl (Env.le.rfl' _) ⟨rfl, rfl, false, rfl, fun h => by cases h⟩
              | false =>
                refine gz_ ?_
                cases hsib : x.sib with
                | true =>
                  refine gz_ ?_
                  refine WE.drop (b := b5) pk_ ?_
                  refine WE.drop (b := bu) pk_ ?_
                  exact end_1 rfl rfl (Env.le.rfl' _) ⟨rfl, rfl, false, rfl, fun h => by cases h⟩
                | false =>
                  refine gz_ ?_
                  cases h4 : decide ((0 : Int) < (x.atts.length : Int)) with
                  | true =>
                    refine gz_ ?_
                    refine WE.drop (b := b5) pk_ ?_
                    refine WE.drop (b := bu) pk_ ?_
                    exact end_1 rfl rfl (Env.le.rfl' _) ⟨rfl, rfl, false, rfl, fun h => by cases h⟩
                  | false =>
                    refine gz_ ?_
                    have k4 := of_decide_eq_false h4
                    have k1 := of_decide_eq_false h1
                    have k2 := of_decide_eq_false h2
                    have k3 := of_decide_eq_false h3
                    exact WE.mid ⟨rfl, rfl, rfl, by omega, by omega, by omega, fun _ => ⟨rfl, rfl, List.eq_nil_of_length_eq_zero (by omega)⟩, fun h => (by cases h)⟩ sr_ (fun _ h => h)
            · rw [show (x.tag == 0) = false from beq_eq_false_iff_ne.2 ht]
              refine gz_ ?_
              cases hsib : x.sib with
              | true =>
                refine gz_ ?_
                cases hch : x.ch with
                | true =>
                  refine gz_ ?_
                  have k1 := of_decide_eq_false h1
                  have k2 := of_decide_eq_false h2
                  have k3 := of_decide_eq_false h3
                  exact WE.mid ⟨rfl, rfl, rfl, by omega, by omega, by omega, fun h => absurd h ht, fun _ => rfl⟩ sr_ (fun _ h => h)
                | false =>
                  refine gz_ ?_
                  refine WE.drop (b := b5) pk_ ?_
                  refine WE.drop (b := bu) pk_ ?_
                  exact end_1 rfl rfl (Env.le.rfl' _) ⟨rfl, rfl, false, rfl, fun h => by cases h⟩
              | false =>
                refine gz_ ?_
                have k1 := of_decide_eq_false h1
                have k2 := of_decide_eq_false h2
                have k3 := of_decide_eq_false h3
                exact WE.mid ⟨rfl, rfl, rfl, by omega, by omega, by omega, fun h => absurd h ht, fun h => (by cases h)⟩ sr_ (fun _ h => h)
    rintro R' Γ' H' ⟨rfl, rfl, rfl, ht0, ht1, hna, hnul, hsib⟩
    refine gz_ ?_
    refine WC.loopE (fun m R' Γ' H' => ∃ k, R' = [(1, .pointer (some ⟨bu, 0, none⟩)), (3, .int .i64 d2), (76, .slice (some ⟨bb, oo, none⟩) u.nods.length cap0), (77, .int .i64 (u.nods.length : Int)), (78, .int .i64 ((i : Nat) : Int)), (144, .slice a1 x.atts.length cap1), (145, .int .i64 (x.atts.length : Int)), (146, .int .i64 ((k : Nat) : Int))] ∧ Γ = Γ' ∧ H' = (bu, cel [.int .i64 u.vers, .bool u.wide, .int .i64 u.size, .slice (some ⟨bb, oo, none⟩) u.nods.length cap0] 58) :: H ∧ m = x.atts.length - k ∧ k ≤ x.atts.length ∧ ∀ y ∈ x.atts.take k, AttF u.vers u.wide u.size y ∧ y.s.size ≤ 4096 ∧ y.b.length ≤ 4096)
      ⟨0, rfl, rfl, rfl, rfl, Nat.zero_le _, fun y hy => by simp at hy⟩ sr_ sm_ ?_
    rintro m R' Γ' H' ⟨k, rfl, rfl, rfl, rfl, hk, hat⟩
    rcases Nat.lt_or_ge k x.atts.length with hlt2 | hge2
    case inr =>
      have ek : k = x.atts.length := by omega
      subst ek
      refine gz_ ?_
      refine WC.condF rfl (decide_eq_false (by omega)) ?_
      refine gz_ ?_
      rw [List.take_length] at hat
      exact WE.again ⟨i + 1, d2, rfl, rfl, rfl, rfl, hlt, by omega, by omega, mem_drop_of hx hok ⟨ht0, ht1, hna, hnul, hsib, hat⟩⟩ (by omega) ⟨rfl, rfl, rfl, rfl, congrArg (fun z => some (Value.int .i64 z)) hwi, trivial⟩ sm_
    case inl =>
      obtain ⟨y, hy⟩ : ∃ y, x.atts[k]? = some y := ⟨_, List.getElem?_eq_getElem hlt2⟩
      obtain ⟨bb2, oo2, c, rfl, hP, hc2⟩ := elemA hA1 hL1 (fun _ _ h => h.len) (w := 6) (by decide) hy
      have hP2 := hP
      obtain ⟨vn, rfl, ⟨a3, cap3, rfl, -, -⟩, -⟩ := hP
      have hfa := hf4 y (List.mem_of_getElem? hy)
      have hwk : IntKind.i64.wrap ((k : Int) + 1) = (k : Int) + 1 := w_i64 (by omega) (by omega)
      refine gz_ ?_
      refine WC.condT rfl (by first | rfl | exact decide_eq_true (by omega) | (simp; (first | done | fail)) | (simp; omega)) ?_
      refine gz_ ?_
      (refine WL.alloc tab_ok rfl rfl ?_; intro b7)
      refine gz_ ?_
      refine WL.call rfl Tryz.call45 rfl rfl (by exact (isAttr_ok hsz hP2 hfa)) ?_
      rintro _ _ _ - ⟨rfl, rfl, bl, rfl, hbl⟩
      refine gz_ ?_
      cases bl with
      | false =>
        refine gz_ ?_
        refine WE.drop (b := b7) pk_ ?_
        refine WE.drop (b := bu) pk_ ?_
        exact end_1 rfl rfl (Env.le.rfl' _) ⟨rfl, rfl, false, rfl, fun h => by cases h⟩
      | true =>
        refine gz_ ?_
        cases h5 : decide ((4096 : Int) < (y.s.size : Int)) with
        | true =>
          refine gz_ ?_
          refine WE.drop (b := b7) pk_ ?_
          refine WE.drop (b := bu) pk_ ?_
          exact end_1 rfl rfl (Env.le.rfl' _) ⟨rfl, rfl, false, rfl, fun h => by cases h⟩
        | false =>
          refine gz_ ?_
          cases h6 : decide ((4096 : Int) < (y.b.length : Int)) with
          | true =>
            refine gz_ ?_
            refine WE.drop (b := b7) pk_ ?_
            refine WE.drop (b := bu) pk_ ?_
            exact end_1 rfl rfl (Env.le.rfl' _) ⟨rfl, rfl, false, rfl, fun h => by cases h⟩
          | false =>
            refine gz_ ?_
            have k5 := of_decide_eq_false h5
            have k6 := of_decide_eq_false h6
            exact WE.again ⟨k + 1, rfl, rfl, rfl, rfl, hlt2, mem_drop_of hy hat ⟨hbl rfl, by omega, by omega⟩⟩ (by omega) ⟨rfl, rfl, rfl, rfl, rfl, rfl, rfl, congrArg (fun z => some (Value.int .i64 z)) hwk, trivial⟩ sm_
end Go.Proofs.YtdplhbmoidepgaaGreatDoor
