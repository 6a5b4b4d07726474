/- IsLayout, Places, IsSpan. Short names for what is found by search: blocks in order. AreUnits, AreSpanned. -/
import Derived.Test.YtdplhbmoidepgaaGreatDoorG1
namespace Go.Sl
open Go
section
variable {P : Program} {ops : Array Oper} {Q : Post} {n : Nat} {D : List Deferred} {R : Regs} {Γ : Env} {H : List Blk} {rest : List Oper}
variable {d : Nat} {ty : TypeId} {pos : String} {aft : Array Edge}
/-- An array's value, put together. -/
theorem WL.buildArr {T : Tab} (hT : TabOk P T) {t e : TypeId} {m : Nat} {i j : TI} {ps : Array (Nat × Operand)} {vs : List (Nat × Value)} {l l' : List Value}
    (hi : T.get t = some i) (hda : i.desc = .array m e) (hj : T.get e = some j) (hv : evp R ps.toList = some vs) (hf : fillS j.size i.zc vs = some l) (hl : Spine l l') (hd : Nat.blt d n = true)
    (k : WL P ops Q n D rest ((d, .agg l'.toArray) :: R) Γ H) : WL P ops Q n D (⟨some d, .build t ps, ty, pos, aft, none⟩ :: rest) R Γ H :=
  WL.value hd fun a w hs => by
    refine ⟨.agg l'.toArray, w, ?_, Γ, H, hs.st, k⟩
    have hu := run_underlying' (hT.get hi) w
    rw [hda] at hu
    obtain ⟨_, _, _, _, _, _, hzz⟩ := hT.get hi
    have h1 := fillS_ok hf
    have hz : i.zc.toArray = i.zero.cells := by rw [← hzz, ← vcells_eq]
    rw [hz] at h1
    have hps : (ps.map fun x => (x.1, a.eval x.2)).toList = vs := by simpa using evp_eval hs.regs hv
    have hl' := hl.eq
    subst hl'
    simp only [execOp, Instr.build, Sem.run_bind, run_zeroValue' (hT.get hi), hu, Result.andThen_ok, run_sizeOf' (hT.get hj), hps, h1]
    rfl
theorem WL.idxArr {T : Tab} (hT : TabOk P T) {t e : TypeId} {x ix : Operand} {b o len s : Nat} {kk : IntKind} {i : Int}
    (hx : ev R x = some (.pointer (some ⟨b, o, none⟩))) (hi : ev R ix = some (.int kk i)) (ht : T.desc t = some (.array len e)) (hs : T.size e = some s) (h0 : 0 ≤ i) (h1 : i < len) (hd : Nat.blt d n = true)
    (k : WL P ops Q n D rest ((d, .pointer (some ⟨b, o + i.toNat * s, none⟩)) :: R) Γ H) : WL P ops Q n D (⟨some d, .indexAddr t x ix, ty, pos, aft, none⟩ :: rest) R Γ H :=
  WL.value hd fun a w hw => by
    refine ⟨_, w, ?_, Γ, H, hw.st, k⟩
    simp only [execOp, ev_eval hw.regs hx, ev_eval hw.regs hi, Instr.indexAt, asIntOf, Instr.sureAddr, Sem.run_bind, Sem.run_pure, Result.andThen_ok, run_underlying (Tab.desc_ok hT ht)]
    simp [h0, h1, run_sizeOf'' hT hs, Addr.add_lit]
end
/-- Blocks and lists of blocks, put in order; the others dropped. -/
inductive Sn : List Blk → List Blk → Prop where
  | sm {H H2} : Sm H H2 → Sn H H2
  | pick {H b o H' H2} : Pick H b o H' → Sn H' H2 → Sn H ((b, o) :: H2)
  | tk {H G H' H2} : Tk H G H' → Sn H' H2 → Sn H (G ++ H2)
theorem Sn.st {H H2 : List Blk} (h : Sn H H2) : ∃ L, H.Perm (L ++ H2) := by
  induction h with
  | sm h => exact h.st (Γ := ⟨fun _ => none, default, fun _ _ => 0, #[]⟩)
  | pick hp _ ih =>
    obtain ⟨L, hL⟩ := ih
    exact ⟨L, hp.perm.trans ((List.Perm.cons _ hL).trans List.perm_middle.symm)⟩
  | @tk H G H' H2 hp _ ih =>
    obtain ⟨L, hL⟩ := ih
    refine ⟨L, hp.perm.trans ((List.Perm.append_left _ hL).trans ?_)⟩
    rw [← List.append_assoc, ← List.append_assoc]
    exact List.Perm.append_right _ List.perm_append_comm
theorem Sn.go {Γ : Env} {H H2 : List Blk} (h : Sn H H2) : ∀ w, St Γ H w → St Γ H2 w := fun w hw => by
  obtain ⟨L, hL⟩ := h.st
  exact St.tk Tk.here (hw.perm hL)
end Go.Sl
namespace Go.Proofs.YtdplhbmoidepgaaGreatDoor
open Go Go.Sl
set_option maxRecDepth 10000
set_option maxHeartbeats 40000000

structure OkLay (l : Lay) : Prop where
  v2 : 2 ≤ l.vers
  v5 : l.vers ≤ 5
  wd : l.wide = true → 2 < l.vers
  sz : l.size = 4 ∨ l.size = 8
abbrev layV (l : Lay) : Value := .agg #[.int .i64 l.vers, .bool l.wide, .int .i64 l.size, .bool l.big, .bool l.far]
theorem isLayout_ok {Γ : Env} {H : List Blk} (l : Lay) :
   Spc Tryz.prog 22 #[layV l] Γ H (fun v Γ' H' => Γ = Γ' ∧ H = H' ∧ ∃ b, v = .bool b ∧ (b = true → OkLay l)) := by
  obtain ⟨vers, wide, size, big, far⟩ := l
  refine Spc.body1 Tryz.func22 rfl Tryz.ntmps22 rfl ?_
  refine WC.seq ?_
  refine WC.region ?_
  (refine WL.box rfl spi_ rfl ?_; intro b)
  refine gz_ ?_
  cases h1 : decide ((2 : Int) ≤ vers)
  · refine gz_ ?_
    refine WE.drop (b := b) pk_ ?_
    exact end_1 rfl rfl (Env.le.rfl' _) ⟨rfl, rfl, _, rfl, fun h => by cases h⟩
  refine gz_ ?_
  cases h2 : decide (vers ≤ 5)
  · refine gz_ ?_
    refine WE.drop (b := b) pk_ ?_
    exact end_1 rfl rfl (Env.le.rfl' _) ⟨rfl, rfl, _, rfl, fun h => by cases h⟩
  have k1 := of_decide_eq_true h1
  have k2 := of_decide_eq_true h2
  refine gz_ ?_
  cases wide with
  | false =>
    refine gz_ ?_
    by_cases h4 : size = 4
    · rw [show (size == 4) = true from beq_iff_eq.2 h4]
      refine gz_ ?_
      refine WE.drop (b := b) pk_ ?_
      exact end_1 rfl rfl (Env.le.rfl' _) ⟨rfl, rfl, _, rfl, fun _ => ⟨k1, k2, fun h => (by cases h), .inl h4⟩⟩
    · rw [show (size == 4) = false from beq_eq_false_iff_ne.2 h4]
      refine gz_ ?_
      refine WE.drop (b := b) pk_ ?_
      exact end_1 rfl rfl (Env.le.rfl' _) ⟨rfl, rfl, _, rfl, fun h => ⟨k1, k2, fun h => (by cases h), .inr (eq_of_beq h)⟩⟩
  | true =>
    refine gz_ ?_
    cases h3 : decide ((2 : Int) < vers)
    · refine gz_ ?_
      refine WE.drop (b := b) pk_ ?_
      exact end_1 rfl rfl (Env.le.rfl' _) ⟨rfl, rfl, _, rfl, fun h => by cases h⟩
    have k3 := of_decide_eq_true h3
    refine gz_ ?_
    by_cases h4 : size = 4
    · rw [show (size == 4) = true from beq_iff_eq.2 h4]
      refine gz_ ?_
      refine WE.drop (b := b) pk_ ?_
      exact end_1 rfl rfl (Env.le.rfl' _) ⟨rfl, rfl, _, rfl, fun _ => ⟨k1, k2, fun _ => k3, .inl h4⟩⟩
    · rw [show (size == 4) = false from beq_eq_false_iff_ne.2 h4]
      refine gz_ ?_
      refine WE.drop (b := b) pk_ ?_
      exact end_1 rfl rfl (Env.le.rfl' _) ⟨rfl, rfl, _, rfl, fun h => ⟨k1, k2, fun _ => k3, .inr (eq_of_beq h)⟩⟩

/-! ### Places -/
def m64 (n : Nat) : Nat := n % 18446744073709551616
theorem wrap_m64 (n : Nat) : IntKind.u64.wrap (n : Int) = ((m64 n : Nat) : Int) := by
  simp only [IntKind.wrap, IntKind.bits, IntKind.signed, m64]; simp
def plcsL : Nat → List Pie → List (Nat × Nat)
  | _, [] => []
  | b, p :: ps => if p.kind = 0 then (m64 (b + p.a), m64 (b + p.b)) :: plcsL b ps else if p.kind = 1 then plcsL p.a ps
    else if p.kind = 2 then (p.a, p.b) :: plcsL b ps else if p.kind = 3 then (p.a, m64 (p.a + p.b)) :: plcsL b ps else plcsL b ps
def plcs (x : Spn) : List (Nat × Nat) := if x.lst then plcsL x.low x.pies else [(x.low, x.high)]
def pcells : List (Nat × Nat) → List Value
  | [] => []
  | r :: l => .int .u64 (r.1 : Int) :: .int .u64 (r.2 : Int) :: pcells l
theorem pcells_append : ∀ a b, pcells (a ++ b) = pcells a ++ pcells b
  | [], _ => rfl
  | r :: a, b => by simp [pcells, pcells_append a b]
theorem Places_ok {Γ : Env} {H : List Blk} {x : Spn} {c : List Value} (h : SpnC Γ x c) (hf : FitS x) :
   Spc Tryz.prog 15 #[.agg c.toArray] Γ H (fun v Γ' H' => Γ = Γ' ∧ ∃ Hs, Ow 2 v (plcs x).length (pcells (plcs x)) Hs ∧ H' = Hs ++ H) := by
  obtain ⟨vp, rfl, a0, cap0, cells0, rfl, hcap0, hA0, hL0⟩ := h
  unfold FitS at hf
  refine Spc.body1 Tryz.func15 rfl Tryz.ntmps15 rfl ?_
  refine WC.seq ?_
  refine WC.region ?_
  (refine WL.box rfl spi_ rfl ?_; intro b1)
  refine gz_ ?_
  cases hl : x.lst with
  | false =>
    refine gz_ ?_
    refine WL.buildArr tab_ok rfl rfl rfl rfl rfl spi_ rfl ?_
    (refine WL.lit tab_ok rfl rfl rfl rfl rfl rfl rfl spi_ rfl ?_; intro bl)
    refine gz_ ?_
    refine WE.drop (b := b1) pk_ ?_
    refine end_1 rfl rfl (Env.le.rfl' _) ⟨rfl, [(bl, cel [.int .u64 (x.low : Int), .int .u64 (x.high : Int)] 105)], ?_, rfl⟩
    have hp : plcs x = [(x.low, x.high)] := by simp [plcs, hl]
    rw [hp]
    exact Ow.lit rfl
  | true =>
    refine gz_ ?_
    (refine WL.lit tab_ok rfl rfl rfl rfl rfl rfl rfl spi_ rfl ?_; intro b0)
    refine gz_ ?_
    have hp : plcs x = plcsL x.low x.pies := by simp [plcs, hl]
    rw [hp]
    refine WC.loopE (fun m R' Γ' H' => ∃ i bs v out Hs, R' = [(1, .pointer (some ⟨b1, 0, none⟩)), (3, v), (4, .int .u64 ((bs : Nat) : Int)), (20, .slice a0 x.pies.length cap0), (21, .int .i64 (x.pies.length : Int)), (22, .int .i64 ((i : Nat) : Int))] ∧ Γ = Γ' ∧
        H' = Hs ++ ((b1, cel [.int .u64 (x.low : Int), .int .u64 (x.high : Int), .bool x.len, .bool true, .slice a0 x.pies.length cap0] 54) :: H) ∧ m = x.pies.length - i ∧ i ≤ x.pies.length ∧
        Ow 2 v (out : List (Nat × Nat)).length (pcells out) Hs ∧ out.length ≤ i ∧ plcsL x.low x.pies = out ++ plcsL bs (x.pies.drop i))
      ⟨0, x.low, _, [], [(b0, cel [] 105)], rfl, rfl, rfl, rfl, Nat.zero_le _, Ow.lit (s := 2) (k := 0) (l := []) rfl, Nat.le_refl _, rfl⟩ sr_ sm_ ?_
    rintro m R' Γ' H' ⟨i, bs, v, out, Hs, rfl, rfl, rfl, rfl, hi, how, hoi, hpl⟩
    rcases Nat.lt_or_ge i x.pies.length with hlt | hge
    case inr =>
      have ei : i = x.pies.length := by omega
      subst ei
      refine gz_ ?_
      refine WC.condF rfl (decide_eq_false (by omega)) ?_
      refine gz_ ?_
      rw [List.drop_length, plcsL, List.append_nil] at hpl
      refine WE.drop (b := b1) pk_ ?_
      rw [hpl]
      exact end_1 rfl rfl (Env.le.rfl' _) ⟨rfl, Hs, how, rfl⟩
    case inl =>
      obtain ⟨⟨kd, pa, pb⟩, hx⟩ : ∃ y, x.pies[i]? = some y := ⟨_, List.getElem?_eq_getElem hlt⟩
      obtain ⟨bb, oo, c, rfl, hP, hc⟩ := elemA hA0 hL0 (fun _ _ h => h.len) (w := 3) (by decide) hx
      unfold PieC at hP
      subst hP
      simp only at hc
      have hdr : x.pies.drop i = ⟨kd, pa, pb⟩ :: x.pies.drop (i + 1) := by
        rw [List.drop_eq_getElem_cons hlt]
        rw [List.getElem?_eq_getElem hlt] at hx; injection hx with hx; rw [hx]
      rw [hdr] at hpl
      have hwi : IntKind.i64.wrap ((i : Int) + 1) = (i : Int) + 1 := w_i64 (by omega) (by omega)
      refine gz_ ?_
      refine WC.condT rfl (by first | rfl | exact decide_eq_true (by omega) | (simp; (first | done | fail)) | (simp; omega)) ?_
      refine gz_ ?_
      (refine WL.alloc tab_ok rfl rfl ?_; intro b6)
      refine gz_ ?_
      -- KINDS
      by_cases k0 : kd = 0
      · subst k0
        refine gz_ ?_
        rw [show IntKind.u64.wrap ((bs : Int) + (pa : Int)) = ((m64 (bs + pa) : Nat) : Int) from by rw [← wrap_m64]; rfl]
        rw [show IntKind.u64.wrap ((bs : Int) + (pb : Int)) = ((m64 (bs + pb) : Nat) : Int) from by rw [← wrap_m64]; rfl]
        refine WL.buildArr tab_ok rfl rfl rfl rfl rfl spi_ rfl ?_
        (refine WL.lit tab_ok rfl rfl rfl rfl rfl rfl rfl spi_ rfl ?_; intro bl)
        refine WL.append tab_ok rfl rfl rfl rfl rfl rfl rfl rfl how tk_ ((Ow.lit (s := 2) (b := bl) (k := 1) (l := [.int .u64 ((m64 (bs + pa) : Nat) : Int), .int .u64 ((m64 (bs + pb) : Nat) : Int)]) (T := 105) rfl).src tab_ok rfl (Tk.here (Hs := [(bl, _)])) (fun q hq => by simp at hq; rcases hq with rfl | rfl <;> rfl)) (by omega) (by omega) (fun v2 Hs2 how2 => ?_)
        refine gz_ ?_
        have how3 : Ow 2 v2 (out ++ [(m64 (bs + pa), m64 (bs + pb))]).length (pcells (out ++ [(m64 (bs + pa), m64 (bs + pb))])) Hs2 := by rw [List.length_append, pcells_append]; exact how2
        exact WE.again ⟨i + 1, bs, v2, out ++ [(m64 (bs + pa), m64 (bs + pb))], Hs2, rfl, rfl, rfl, rfl, hlt, how3, by rw [List.length_append]; simp only [List.length_cons, List.length_nil]; omega, by rw [hpl, List.append_assoc]; simp [plcsL]⟩ (by omega) ⟨rfl, rfl, rfl, rfl, rfl, congrArg (fun z => some (Value.int .i64 z)) hwi, trivial⟩ (by first | (apply Sn.go; (repeat (first | with_reducible exact Sn.sm Sm.refl | (apply Sn.pick; focus (first | assumption | ((repeat (first | apply Pick.here | apply Pick.there | apply Pick.over)); (first | done | fail)))) | (apply Sn.tk; focus ((repeat (first | apply Tk.here | apply Tk.all | apply Tk.skip | apply Tk.over)); (first | done | fail))))); (first | done | (apply Sn.sm; (repeat (first | with_reducible apply Sm.refl | apply Sm.drop | apply Sm.dropA)); (first | done | fail)))) | (refine Sn.go ?_; (repeat (first | exact Sn.sm Sm.refl | refine Sn.pick pk_ ?_ | refine Sn.tk tk_ ?_)); (first | done | (refine Sn.sm ?_; (repeat (first | exact Sm.refl | apply Sm.drop | apply Sm.dropA)); (first | done | fail)))))
      refine WC.condF rfl (beq_eq_false_iff_ne.2 k0) ?_
      refine gz_ ?_
      by_cases k1 : kd = 1
      · subst k1
        refine gz_ ?_
        exact WE.again ⟨i + 1, pa, v, out, Hs, rfl, rfl, rfl, rfl, hlt, how, by omega, by rw [hpl]; simp [plcsL]⟩ (by omega) ⟨rfl, rfl, rfl, rfl, rfl, congrArg (fun z => some (Value.int .i64 z)) hwi, trivial⟩ sm_
      refine WC.condF rfl (beq_eq_false_iff_ne.2 k1) ?_
      refine gz_ ?_
      by_cases k2 : kd = 2
      · subst k2
        refine gz_ ?_
        refine WL.buildArr tab_ok rfl rfl rfl rfl rfl spi_ rfl ?_
        (refine WL.lit tab_ok rfl rfl rfl rfl rfl rfl rfl spi_ rfl ?_; intro bl)
        refine WL.append tab_ok rfl rfl rfl rfl rfl rfl rfl rfl how tk_ ((Ow.lit (s := 2) (b := bl) (k := 1) (l := [.int .u64 ((pa : Nat) : Int), .int .u64 ((pb : Nat) : Int)]) (T := 105) rfl).src tab_ok rfl (Tk.here (Hs := [(bl, _)])) (fun q hq => by simp at hq; rcases hq with rfl | rfl <;> rfl)) (by omega) (by omega) (fun v2 Hs2 how2 => ?_)
        refine gz_ ?_
        have how3 : Ow 2 v2 (out ++ [(pa, pb)]).length (pcells (out ++ [(pa, pb)])) Hs2 := by rw [List.length_append, pcells_append]; exact how2
        exact WE.again ⟨i + 1, bs, v2, out ++ [(pa, pb)], Hs2, rfl, rfl, rfl, rfl, hlt, how3, by rw [List.length_append]; simp only [List.length_cons, List.length_nil]; omega, by rw [hpl, List.append_assoc]; simp [plcsL]⟩ (by omega) ⟨rfl, rfl, rfl, rfl, rfl, congrArg (fun z => some (Value.int .i64 z)) hwi, trivial⟩ (by first | (apply Sn.go; (repeat (first | with_reducible exact Sn.sm Sm.refl | (apply Sn.pick; focus (first | assumption | ((repeat (first | apply Pick.here | apply Pick.there | apply Pick.over)); (first | done | fail)))) | (apply Sn.tk; focus ((repeat (first | apply Tk.here | apply Tk.all | apply Tk.skip | apply Tk.over)); (first | done | fail))))); (first | done | (apply Sn.sm; (repeat (first | with_reducible apply Sm.refl | apply Sm.drop | apply Sm.dropA)); (first | done | fail)))) | (refine Sn.go ?_; (repeat (first | exact Sn.sm Sm.refl | refine Sn.pick pk_ ?_ | refine Sn.tk tk_ ?_)); (first | done | (refine Sn.sm ?_; (repeat (first | exact Sm.refl | apply Sm.drop | apply Sm.dropA)); (first | done | fail)))))
      refine WC.condF rfl (beq_eq_false_iff_ne.2 k2) ?_
      refine gz_ ?_
      by_cases k3 : kd = 3
      · subst k3
        refine gz_ ?_
        rw [show IntKind.u64.wrap ((pa : Int) + (pb : Int)) = ((m64 (pa + pb) : Nat) : Int) from by rw [← wrap_m64]; rfl]
        refine WL.buildArr tab_ok rfl rfl rfl rfl rfl spi_ rfl ?_
        (refine WL.lit tab_ok rfl rfl rfl rfl rfl rfl rfl spi_ rfl ?_; intro bl)
        refine WL.append tab_ok rfl rfl rfl rfl rfl rfl rfl rfl how tk_ ((Ow.lit (s := 2) (b := bl) (k := 1) (l := [.int .u64 ((pa : Nat) : Int), .int .u64 ((m64 (pa + pb) : Nat) : Int)]) (T := 105) rfl).src tab_ok rfl (Tk.here (Hs := [(bl, _)])) (fun q hq => by simp at hq; rcases hq with rfl | rfl <;> rfl)) (by omega) (by omega) (fun v2 Hs2 how2 => ?_)
        refine gz_ ?_
        have how3 : Ow 2 v2 (out ++ [(pa, m64 (pa + pb))]).length (pcells (out ++ [(pa, m64 (pa + pb))])) Hs2 := by rw [List.length_append, pcells_append]; exact how2
        exact WE.again ⟨i + 1, bs, v2, out ++ [(pa, m64 (pa + pb))], Hs2, rfl, rfl, rfl, rfl, hlt, how3, by rw [List.length_append]; simp only [List.length_cons, List.length_nil]; omega, by rw [hpl, List.append_assoc]; simp [plcsL]⟩ (by omega) ⟨rfl, rfl, rfl, rfl, rfl, congrArg (fun z => some (Value.int .i64 z)) hwi, trivial⟩ (by first | (apply Sn.go; (repeat (first | with_reducible exact Sn.sm Sm.refl | (apply Sn.pick; focus (first | assumption | ((repeat (first | apply Pick.here | apply Pick.there | apply Pick.over)); (first | done | fail)))) | (apply Sn.tk; focus ((repeat (first | apply Tk.here | apply Tk.all | apply Tk.skip | apply Tk.over)); (first | done | fail))))); (first | done | (apply Sn.sm; (repeat (first | with_reducible apply Sm.refl | apply Sm.drop | apply Sm.dropA)); (first | done | fail)))) | (refine Sn.go ?_; (repeat (first | exact Sn.sm Sm.refl | refine Sn.pick pk_ ?_ | refine Sn.tk tk_ ?_)); (first | done | (refine Sn.sm ?_; (repeat (first | exact Sm.refl | apply Sm.drop | apply Sm.dropA)); (first | done | fail)))))
      refine WC.condF rfl (beq_eq_false_iff_ne.2 k3) ?_
      refine gz_ ?_
      exact WE.again ⟨i + 1, bs, v, out, Hs, rfl, rfl, rfl, rfl, hlt, how, by omega, by rw [hpl]; simp [plcsL, k0, k1, k2, k3]⟩ (by omega) ⟨rfl, rfl, rfl, rfl, rfl, congrArg (fun z => some (Value.int .i64 z)) hwi, trivial⟩ sm_
structure OkPie (v : Int) (p : Pie) : Prop where
  a : p.a < 2147483648
  b : p.b < 2147483648
  k0 : 0 ≤ p.kind
  k3 : p.kind ≤ 3
  kv : 1 < p.kind → 5 ≤ v
  lt : p.kind = 0 ∨ p.kind = 2 → p.a < p.b
  ne : p.kind = 3 → p.b ≠ 0
structure OkSpn (l : Lay) (x : Spn) : Prop where
  lay : OkLay l
  low : x.low < 2147483648
  high : x.high < 2147483648
  np : x.pies.length ≤ 100
  len : x.len = true → 4 ≤ l.vers
  flat : x.lst = false → x.low < x.high ∧ x.pies = []
  pie : x.lst = true → ∀ p ∈ x.pies, OkPie l.vers p
  plc : x.lst = true → ∀ r ∈ plcs x, r.2 < 2147483648
def PairC (r : Nat × Nat) (c : List Value) : Prop := c = [.int .u64 (r.1 : Int), .int .u64 (r.2 : Int)]
theorem PairC.len {r : Nat × Nat} {c : List Value} (h : PairC r c) : c.length = 2 := by cases h; rfl
theorem pairs_lis : ∀ l : List (Nat × Nat), LisC PairC l (pcells l)
  | [] => rfl
  | r :: l => ⟨[_, _], _, rfl, rfl, pairs_lis l⟩
theorem plcsL_len : ∀ (b : Nat) (ps : List Pie), (plcsL b ps).length ≤ ps.length
  | _, [] => Nat.le_refl _
  | b, p :: ps => by
    have h1 := plcsL_len b ps
    have h2 := plcsL_len p.a ps
    simp only [plcsL]
    repeat' split
    all_goals (simp only [List.length_cons]; omega)
theorem plcs_len (x : Spn) : x.lst = true → (plcs x).length ≤ x.pies.length := fun h => by
  unfold plcs; rw [if_pos h]; exact plcsL_len _ _
theorem pcells_get : ∀ {l : List (Nat × Nat)} {i : Nat} {r : Nat × Nat}, l[i]? = some r → (pcells l)[i * 2]? = some (.int .u64 (r.1 : Int)) ∧ (pcells l)[i * 2 + 1]? = some (.int .u64 (r.2 : Int))
  | [], _, _, e => by simp at e
  | y :: l, 0, r, e => by injection e with e; subst e; exact ⟨rfl, rfl⟩
  | y :: l, i + 1, r, e => by
    have := pcells_get (l := l) (i := i) (by simpa using e)
    rw [show (i + 1) * 2 = i * 2 + 1 + 1 by omega]
    exact this
theorem isSpan_ok {Γ : Env} {H : List Blk} {l : Lay} {x : Spn} {c : List Value} (h : SpnC Γ x c) (hf : FitS x) :
   Spc Tryz.prog 23 #[layV l, .agg c.toArray] Γ H (fun v Γ' H' => Γ = Γ' ∧ H = H' ∧ ∃ b, v = .bool b ∧ (b = true → OkSpn l x)) := by
  have hS := h
  obtain ⟨vp, rfl, a0, cap0, cells0, rfl, hcap0, hA0, hL0⟩ := h
  refine Spc.body2 Tryz.func23 rfl Tryz.ntmps23 rfl ?_
  refine WC.seq ?_
  refine WC.region ?_
  (refine WL.box rfl spi_ rfl ?_; intro b2)
  (refine WL.box rfl spi_ rfl ?_; intro b3)
  refine gs_ ?_
  refine WE.then_ ?_
  refine WC.seq ?_
  refine WC.cutM (fun R' Γ' H' => R' = [(2, .pointer (some ⟨b2, 0, none⟩)), (3, .pointer (some ⟨b3, 0, none⟩))] ∧ Γ = Γ' ∧ H' = (b3, cel [.int .u64 (x.low : Int), .int .u64 (x.high : Int), .bool x.len, .bool x.lst, .slice a0 x.pies.length cap0] 54) :: (b2, cel [.int .i64 l.vers, .bool l.wide, .int .i64 l.size, .bool l.big, .bool l.far] 23) :: H ∧ (OkLay l ∧ x.low < 2147483648 ∧ x.high < 2147483648 ∧ x.pies.length ≤ 100 ∧ (x.len = true → 4 ≤ l.vers))) ?_ ?_
  · refine gz_ ?_
    refine WL.call rfl Tryz.call22 rfl rfl (by exact (isLayout_ok l)) ?_
    rintro _ _ _ - ⟨rfl, rfl, bl, rfl, hbl⟩
    refine gz_ ?_
    cases bl with
    | false =>
      refine gz_ ?_
      refine WE.drop (b := b2) pk_ ?_
      refine WE.drop (b := b3) pk_ ?_
      exact end_1 rfl rfl (Env.le.rfl' _) ⟨rfl, rfl, false, rfl, fun h => by cases h⟩
    | true =>
      refine gz_ ?_
      cases h1 : decide ((2147483648 : Int) ≤ (x.low : Int)) with
      | true =>
        refine gz_ ?_
        refine WE.drop (b := b2) pk_ ?_
        refine WE.drop (b := b3) pk_ ?_
        exact end_1 rfl rfl (Env.le.rfl' _) ⟨rfl, rfl, false, rfl, fun h => by cases h⟩
      | false =>
        refine gz_ ?_
        cases h2 : decide ((2147483648 : Int) ≤ (x.high : Int)) with
        | true =>
          refine gz_ ?_
          refine WE.drop (b := b2) pk_ ?_
          refine WE.drop (b := b3) pk_ ?_
          exact end_1 rfl rfl (Env.le.rfl' _) ⟨rfl, rfl, false, rfl, fun h => by cases h⟩
        | false =>
          refine gz_ ?_
          cases h3 : decide ((100 : Int) < (x.pies.length : Int)) with
          | true =>
            refine gz_ ?_
            refine WE.drop (b := b2) pk_ ?_
            refine WE.drop (b := b3) pk_ ?_
            exact end_1 rfl rfl (Env.le.rfl' _) ⟨rfl, rfl, false, rfl, fun h => by cases h⟩
          | false =>
            refine gz_ ?_
            have k1 := of_decide_eq_false h1
            have k2 := of_decide_eq_false h2
            have k3 := of_decide_eq_false h3
            cases hlen : x.len with
            | false =>
              refine gz_ ?_
              exact WE.mid ⟨rfl, rfl, rfl, hbl rfl, by omega, by omega, by omega, fun h => (by cases h)⟩ sr_ sm_
            | true =>
              refine gz_ ?_
              cases h4 : decide (l.vers < 4) with
              | true =>
                refine gz_ ?_
                refine WE.drop (b := b2) pk_ ?_
                refine WE.drop (b := b3) pk_ ?_
                exact end_1 rfl rfl (Env.le.rfl' _) ⟨rfl, rfl, false, rfl, fun h => by cases h⟩
              | false =>
                refine gz_ ?_
                have k4 := of_decide_eq_false h4
                exact WE.mid ⟨rfl, rfl, rfl, hbl rfl, by omega, by omega, by omega, fun _ => by omega⟩ sr_ sm_
  rintro R' Γ' H' ⟨rfl, rfl, rfl, hlay, hlow, hhigh, hnp, hlen⟩
  refine gz_ ?_
  cases hl : x.lst with
  | false =>
    refine gz_ ?_
    by_cases hlt : x.low < x.high
    · rw [show decide ((x.low : Int) < (x.high : Int)) = true from decide_eq_true (by omega)]
      refine gz_ ?_
      refine WE.drop (b := b2) pk_ ?_
      refine WE.drop (b := b3) pk_ ?_
      exact end_1 rfl rfl (Env.le.rfl' _) ⟨rfl, rfl, _, rfl, fun h => ⟨hlay, hlow, hhigh, hnp, hlen, fun _ => ⟨hlt, List.eq_nil_of_length_eq_zero (by have := eq_of_beq h; omega)⟩, fun h2 => (by rw [hl] at h2; cases h2), fun h2 => (by rw [hl] at h2; cases h2)⟩⟩
    · rw [show decide ((x.low : Int) < (x.high : Int)) = false from decide_eq_false (by omega)]
      refine gz_ ?_
      refine WE.drop (b := b2) pk_ ?_
      refine WE.drop (b := b3) pk_ ?_
      exact end_1 rfl rfl (Env.le.rfl' _) ⟨rfl, rfl, false, rfl, fun h => by cases h⟩
  | true =>
    refine gz_ ?_
    refine WC.loopE (fun m R' Γ' H' => ∃ i, R' = [(2, .pointer (some ⟨b2, 0, none⟩)), (3, .pointer (some ⟨b3, 0, none⟩)), (52, .slice a0 x.pies.length cap0), (53, .int .i64 (x.pies.length : Int)), (54, .int .i64 ((i : Nat) : Int))] ∧ Γ = Γ' ∧ H' = (b3, cel [.int .u64 (x.low : Int), .int .u64 (x.high : Int), .bool x.len, .bool true, .slice a0 x.pies.length cap0] 54) :: (b2, cel [.int .i64 l.vers, .bool l.wide, .int .i64 l.size, .bool l.big, .bool l.far] 23) :: H ∧ m = x.pies.length - i ∧ i ≤ x.pies.length ∧ ∀ y ∈ x.pies.take i, OkPie l.vers y)
      ⟨0, rfl, rfl, rfl, rfl, Nat.zero_le _, fun y hy => by simp at hy⟩ sr_ sm_ ?_
    rintro m R' Γ' H' ⟨i, rfl, rfl, rfl, rfl, hi, hok⟩
    rcases Nat.lt_or_ge i x.pies.length with hlt | hge
    case inl =>
      obtain ⟨⟨kd, pa, pb⟩, hx⟩ : ∃ y, x.pies[i]? = some y := ⟨_, List.getElem?_eq_getElem hlt⟩
      obtain ⟨bb, oo, c, rfl, hP, hc⟩ := elemA hA0 hL0 (fun _ _ h => h.len) (w := 3) (by decide) hx
      unfold PieC at hP
      subst hP
      simp only at hc
      have hwi : IntKind.i64.wrap ((i : Int) + 1) = (i : Int) + 1 := w_i64 (by omega) (by omega)
      refine gz_ ?_
      refine WC.condT rfl (by first | rfl | exact decide_eq_true (by omega) | (simp; (first | done | fail)) | (simp; omega)) ?_
      refine gz_ ?_
      (refine WL.alloc tab_ok rfl rfl ?_; intro b6)
      refine gs_ ?_
      refine WE.then_ ?_
      refine WC.seq ?_
      refine WC.cutM (fun R' Γ' H' => R' = [(2, .pointer (some ⟨b2, 0, none⟩)), (3, .pointer (some ⟨b3, 0, none⟩)), (6, .pointer (some ⟨b6, 0, none⟩)), (52, .slice (some ⟨bb, oo, none⟩) x.pies.length cap0), (53, .int .i64 (x.pies.length : Int)), (54, .int .i64 ((i : Nat) : Int))] ∧ Γ = Γ' ∧ H' = (b6, cel [.int .i64 kd, .int .u64 (pa : Int), .int .u64 (pb : Int)] 107) :: (b3, cel [.int .u64 (x.low : Int), .int .u64 (x.high : Int), .bool x.len, .bool true, .slice (some ⟨bb, oo, none⟩) x.pies.length cap0] 54) :: (b2, cel [.int .i64 l.vers, .bool l.wide, .int .i64 l.size, .bool l.big, .bool l.far] 23) :: H ∧ (pa < 2147483648 ∧ pb < 2147483648 ∧ 0 ≤ kd ∧ kd ≤ 3 ∧ (1 < kd → 5 ≤ l.vers))) ?_ ?_
      · refine gz_ ?_
        cases q1 : decide ((2147483648 : Int) ≤ (pa : Int)) with
        | true =>
          refine gz_ ?_
          refine WE.drop (b := b2) pk_ ?_
          refine WE.drop (b := b3) pk_ ?_
          refine WE.drop (b := b6) pk_ ?_
          exact end_1 rfl rfl (Env.le.rfl' _) ⟨rfl, rfl, false, rfl, fun h => by cases h⟩
        | false =>
          refine gz_ ?_
          cases q2 : decide ((2147483648 : Int) ≤ (pb : Int)) with
          | true =>
            refine gz_ ?_
            refine WE.drop (b := b2) pk_ ?_
            refine WE.drop (b := b3) pk_ ?_
            refine WE.drop (b := b6) pk_ ?_
            exact end_1 rfl rfl (Env.le.rfl' _) ⟨rfl, rfl, false, rfl, fun h => by cases h⟩
          | false =>
            refine gz_ ?_
            cases q3 : decide (kd < 0) with
            | true =>
              refine gz_ ?_
              refine WE.drop (b := b2) pk_ ?_
              refine WE.drop (b := b3) pk_ ?_
              refine WE.drop (b := b6) pk_ ?_
              exact end_1 rfl rfl (Env.le.rfl' _) ⟨rfl, rfl, false, rfl, fun h => by cases h⟩
            | false =>
              refine gz_ ?_
              cases q4 : decide ((3 : Int) < kd) with
              | true =>
                refine gz_ ?_
                refine WE.drop (b := b2) pk_ ?_
                refine WE.drop (b := b3) pk_ ?_
                refine WE.drop (b := b6) pk_ ?_
                exact end_1 rfl rfl (Env.le.rfl' _) ⟨rfl, rfl, false, rfl, fun h => by cases h⟩
              | false =>
                refine gz_ ?_
                have g1 := of_decide_eq_false q1
                have g2 := of_decide_eq_false q2
                have g3 := of_decide_eq_false q3
                have g4 := of_decide_eq_false q4
                cases q5 : decide ((1 : Int) < kd) with
                | false =>
                  have g5 := of_decide_eq_false q5
                  refine gz_ ?_
                  exact WE.mid ⟨rfl, rfl, rfl, by omega, by omega, by omega, by omega, fun h => by omega⟩ sr_ sm_
                | true =>
                  refine gz_ ?_
                  cases q6 : decide (l.vers < 5) with
                  | true =>
                    refine gz_ ?_
                    refine WE.drop (b := b2) pk_ ?_
                    refine WE.drop (b := b3) pk_ ?_
                    refine WE.drop (b := b6) pk_ ?_
                    exact end_1 rfl rfl (Env.le.rfl' _) ⟨rfl, rfl, false, rfl, fun h => by cases h⟩
                  | false =>
                    refine gz_ ?_
                    have g6 := of_decide_eq_false q6
                    exact WE.mid ⟨rfl, rfl, rfl, by omega, by omega, by omega, by omega, fun h => by omega⟩ sr_ sm_
      rintro R' Γ' H' ⟨rfl, rfl, rfl, ga, gb, gk0, gk3, gkv⟩
      have hkd : kd = 0 ∨ kd = 1 ∨ kd = 2 ∨ kd = 3 := by omega
      rcases hkd with rfl | rfl | rfl | rfl
      · refine gz_ ?_
        cases q7 : decide ((pb : Int) ≤ (pa : Int)) with
        | true =>
          refine gz_ ?_
          refine WE.drop (b := b2) pk_ ?_
          refine WE.drop (b := b3) pk_ ?_
          refine WE.drop (b := b6) pk_ ?_
          exact end_1 rfl rfl (Env.le.rfl' _) ⟨rfl, rfl, false, rfl, fun h => by cases h⟩
        | false =>
          refine gz_ ?_
          have g7 := of_decide_eq_false q7
          exact WE.again ⟨i + 1, rfl, rfl, rfl, rfl, hlt, mem_drop_of hx hok ⟨ga, gb, gk0, gk3, gkv, fun _ => by simp only; omega, fun h => by simp at h⟩⟩ (by omega) ⟨rfl, rfl, rfl, rfl, congrArg (fun z => some (Value.int .i64 z)) hwi, trivial⟩ sm_
      · refine gz_ ?_
        exact WE.again ⟨i + 1, rfl, rfl, rfl, rfl, hlt, mem_drop_of hx hok ⟨ga, gb, gk0, gk3, gkv, fun h => by simp at h, fun h => by simp at h⟩⟩ (by omega) ⟨rfl, rfl, rfl, rfl, congrArg (fun z => some (Value.int .i64 z)) hwi, trivial⟩ sm_
      · refine gz_ ?_
        cases q7 : decide ((pb : Int) ≤ (pa : Int)) with
        | true =>
          refine gz_ ?_
          refine WE.drop (b := b2) pk_ ?_
          refine WE.drop (b := b3) pk_ ?_
          refine WE.drop (b := b6) pk_ ?_
          exact end_1 rfl rfl (Env.le.rfl' _) ⟨rfl, rfl, false, rfl, fun h => by cases h⟩
        | false =>
          refine gz_ ?_
          have g7 := of_decide_eq_false q7
          exact WE.again ⟨i + 1, rfl, rfl, rfl, rfl, hlt, mem_drop_of hx hok ⟨ga, gb, gk0, gk3, gkv, fun _ => by simp only; omega, fun h => by simp at h⟩⟩ (by omega) ⟨rfl, rfl, rfl, rfl, congrArg (fun z => some (Value.int .i64 z)) hwi, trivial⟩ sm_
      · refine gz_ ?_
        cases q8 : ((pb : Int) == 0) with
        | true =>
          refine gz_ ?_
          refine WE.drop (b := b2) pk_ ?_
          refine WE.drop (b := b3) pk_ ?_
          refine WE.drop (b := b6) pk_ ?_
          exact end_1 rfl rfl (Env.le.rfl' _) ⟨rfl, rfl, false, rfl, fun h => by cases h⟩
        | false =>
          refine gz_ ?_
          have g8 := ne_of_beq_false q8
          exact WE.again ⟨i + 1, rfl, rfl, rfl, rfl, hlt, mem_drop_of hx hok ⟨ga, gb, gk0, gk3, gkv, fun h => by simp at h, fun _ => by simp only; omega⟩⟩ (by omega) ⟨rfl, rfl, rfl, rfl, congrArg (fun z => some (Value.int .i64 z)) hwi, trivial⟩ sm_
    case inr =>
      have ei : i = x.pies.length := by omega
      subst ei
      refine gz_ ?_
      refine WC.condF rfl (decide_eq_false (by omega)) ?_
      refine gz_ ?_
      rw [List.take_length] at hok
      rw [hl] at hS
      refine WL.call rfl Tryz.call15 rfl rfl (by exact (Places_ok hS hf)) ?_
      rintro v _ _ - ⟨rfl, Hs, how, rfl⟩
      refine WL.keep how Tk.here (fun Γ2 hle2 him => ?_)
      obtain ⟨a9, cap9, rfl, hcap9, hA9⟩ := him
      refine gz_ ?_
      have hL9 : LisC PairC (plcs x) (pcells (plcs x)) := pairs_lis _
      have hn9 : (plcs x).length ≤ 2147483647 := by have := plcs_len x; rw [hl] at this; have := this rfl; omega
      refine WC.loopE (fun m R' Γ' H' => ∃ j, R' = [(2, .pointer (some ⟨b2, 0, none⟩)), (3, .pointer (some ⟨b3, 0, none⟩)), (113, .slice a9 (plcs x).length cap9), (114, .int .i64 ((plcs x).length : Int)), (115, .int .i64 ((j : Nat) : Int))] ∧ Γ2 = Γ' ∧ H' = (b3, cel [.int .u64 (x.low : Int), .int .u64 (x.high : Int), .bool x.len, .bool true, .slice a0 x.pies.length cap0] 54) :: (b2, cel [.int .i64 l.vers, .bool l.wide, .int .i64 l.size, .bool l.big, .bool l.far] 23) :: H ∧ m = (plcs x).length - j ∧ j ≤ (plcs x).length ∧ ∀ r ∈ (plcs x).take j, r.2 < 2147483648)
        ⟨0, rfl, rfl, rfl, rfl, Nat.zero_le _, fun y hy => by simp at hy⟩ sr_ sm_ ?_
      rintro m R' Γ' H' ⟨j, rfl, rfl, rfl, rfl, hj, hpl⟩
      rcases Nat.lt_or_ge j (plcs x).length with hlt | hge2
      case inr =>
        have ej : j = (plcs x).length := by omega
        subst ej
        refine gz_ ?_
        refine WC.condF rfl (decide_eq_false (by omega)) ?_
        refine gz_ ?_
        rw [List.take_length] at hpl
        refine WE.drop (b := b2) pk_ ?_
        refine WE.drop (b := b3) pk_ ?_
        refine WE.anti hle2 ?_
        exact end_1 rfl rfl (Env.le.rfl' _) ⟨rfl, rfl, true, rfl, fun _ => ⟨hlay, hlow, hhigh, hnp, hlen, fun h2 => (by rw [hl] at h2; cases h2), fun _ => hok, fun _ => hpl⟩⟩
      case inl =>
        obtain ⟨r, hr⟩ : ∃ r, (plcs x)[j]? = some r := ⟨_, List.getElem?_eq_getElem hlt⟩
        obtain ⟨bb, oo, c, rfl, hP, hc⟩ := elemA hA9 hL9 (fun _ _ h => h.len) (w := 2) (by decide) hr
        unfold PairC at hP
        subst hP
        have hwj : IntKind.i64.wrap ((j : Int) + 1) = (j : Int) + 1 := w_i64 (by omega) (by omega)
        refine gz_ ?_
        refine WC.condT rfl (by first | rfl | exact decide_eq_true (by omega) | (simp; (first | done | fail)) | (simp; omega)) ?_
        refine gz_ ?_
        (refine WL.alloc tab_ok rfl rfl ?_; intro b8)
        refine gz_ ?_
        refine WL.idxArr tab_ok rfl rfl rfl rfl (by omega) (by omega) rfl ?_
        refine gz_ ?_
        cases q : decide ((2147483648 : Int) ≤ (r.2 : Int)) with
        | true =>
          refine gz_ ?_
          refine WE.drop (b := b2) pk_ ?_
          refine WE.drop (b := b3) pk_ ?_
          refine WE.drop (b := b8) pk_ ?_
          refine WE.anti hle2 ?_
          exact end_1 rfl rfl (Env.le.rfl' _) ⟨rfl, rfl, false, rfl, fun h => by cases h⟩
        | false =>
          have gq := of_decide_eq_false q
          refine gz_ ?_
          exact WE.again ⟨j + 1, rfl, rfl, rfl, rfl, hlt, mem_drop_of hr hpl (by omega)⟩ (by omega) ⟨rfl, rfl, rfl, rfl, congrArg (fun z => some (Value.int .i64 z)) hwj, trivial⟩ sm_
end Go.Proofs.YtdplhbmoidepgaaGreatDoor
namespace Go.Sl
theorem sn_ {p : Prop} (h : p := by exact (by first | (apply Sn.go; (repeat (first | with_reducible exact Sn.sm Sm.refl | (apply Sn.pick; focus (first | assumption | ((repeat (first | apply Pick.here | apply Pick.there | apply Pick.over)); (first | done | fail)))) | (apply Sn.tk; focus ((repeat (first | apply Tk.here | apply Tk.all | apply Tk.skip | apply Tk.over)); (first | done | fail))))); (first | done | (apply Sn.sm; (repeat (first | with_reducible apply Sm.refl | apply Sm.drop | apply Sm.dropA)); (first | done | fail)))) | (refine Sn.go ?_; (repeat (first | exact Sn.sm Sm.refl | refine Sn.pick pk_ ?_ | refine Sn.tk tk_ ?_)); (first | done | (refine Sn.sm ?_; (repeat (first | exact Sm.refl | apply Sm.drop | apply Sm.dropA)); (first | done | fail)))))) : p := h
end Go.Sl
namespace Go.Proofs.YtdplhbmoidepgaaGreatDoor
open Go Go.Sl
set_option maxRecDepth 10000
set_option maxHeartbeats 40000000

theorem areUnits_ok {Γ : Env} {H : List Blk} {us : List Uni} {v : Value} (h : Arr Γ (UniC Γ) v us) (hfl : us.length ≤ 2147483647) (hf : ∀ u ∈ us, FitU u) :
   Spc Tryz.prog 25 #[v] Γ H (fun v Γ' H' => Γ = Γ' ∧ H = H' ∧ ∃ b, v = .bool b ∧ (b = true → sumBy wU us ≤ 1048576)) := by
  have hArr := h
  obtain ⟨a0, cap0, cells0, rfl, hcap0, hA0, hL0⟩ := h
  refine Spc.body1 Tryz.func25 rfl Tryz.ntmps25 rfl ?_
  refine gs_ ?_
  refine WC.seq ?_
  refine WC.region ?_
  refine gs_ ?_
  refine WE.then_ ?_
  refine WC.seq ?_
  refine WC.cutM (fun R' Γ' H' => R' = [(0, .slice a0 us.length cap0)] ∧ Γ = Γ' ∧ H = H' ∧ sumBy wU us ≤ 1048576) ?_ ?_
  · refine gz_ ?_
    cases h1 : decide ((us.length : Int) < 1) with
    | true =>
      refine gz_ ?_
      exact end_1 rfl rfl (Env.le.rfl' _) ⟨rfl, rfl, false, rfl, fun h => by cases h⟩
    | false =>
      refine gz_ ?_
      cases h2 : decide ((8 : Int) < (us.length : Int)) with
      | true =>
        refine gz_ ?_
        exact end_1 rfl rfl (Env.le.rfl' _) ⟨rfl, rfl, false, rfl, fun h => by cases h⟩
      | false =>
        refine gz_ ?_
        refine WL.call rfl Tryz.call42 rfl rfl (by exact (isLight_ok hArr hfl hf)) ?_
        rintro _ _ _ - ⟨rfl, rfl, bl, rfl, hbl⟩
        refine gz_ ?_
        cases bl with
        | false =>
          refine gz_ ?_
          exact end_1 rfl rfl (Env.le.rfl' _) ⟨rfl, rfl, false, rfl, fun h => by cases h⟩
        | true =>
          refine gz_ ?_
          exact WE.mid ⟨rfl, rfl, rfl, hbl rfl⟩ sr_ (fun _ h => h)
  rintro R' Γ' H' ⟨rfl, rfl, rfl, hlight⟩
  refine gz_ ?_
  refine WC.loopE (fun m R' Γ' H' => ∃ i, R' = [(18, .slice a0 us.length cap0), (19, .int .i64 (us.length : Int)), (20, .int .i64 ((i : Nat) : Int))] ∧ Γ = Γ' ∧ H = H' ∧ m = us.length - i ∧ i ≤ us.length)
    ⟨0, rfl, rfl, rfl, rfl, Nat.zero_le _⟩ sr_ (fun _ h => h) ?_
  rintro m R' Γ' H' ⟨i, rfl, rfl, rfl, rfl, hi⟩
  rcases Nat.lt_or_ge i us.length with hlt | hge
  case inr =>
    have ei : i = us.length := by omega
    subst ei
    refine gz_ ?_
    refine WC.condF rfl (decide_eq_false (by omega)) ?_
    refine gz_ ?_
    exact end_1 rfl rfl (Env.le.rfl' _) ⟨rfl, rfl, true, rfl, fun _ => hlight⟩
  case inl =>
    obtain ⟨u, hu⟩ : ∃ u, us[i]? = some u := ⟨_, List.getElem?_eq_getElem hlt⟩
    obtain ⟨bb, oo, c, rfl, hP, hc⟩ := elemA hA0 hL0 (fun _ _ h => h.len) (w := 4) (by decide) hu
    have hP2 := hP
    obtain ⟨vn, rfl, a1, cap1, cells1, rfl, -, -⟩ := hP
    have hwi : IntKind.i64.wrap ((i : Int) + 1) = (i : Int) + 1 := w_i64 (by omega) (by omega)
    refine gz_ ?_
    refine WC.condT rfl (by first | rfl | exact decide_eq_true (by omega) | (simp; (first | done | fail)) | (simp; omega)) ?_
    refine gz_ ?_
    (refine WL.alloc tab_ok rfl rfl ?_; intro b4)
    refine gz_ ?_
    refine WL.call rfl Tryz.call24 rfl rfl (by exact (isUnit_ok hP2 (hf u (List.mem_of_getElem? hu)))) ?_
    rintro _ _ _ - ⟨rfl, rfl, bl, rfl, hbl⟩
    refine gz_ ?_
    cases bl with
    | false =>
      refine gz_ ?_
      refine WE.drop (b := b4) pk_ ?_
      exact end_1 rfl rfl (Env.le.rfl' _) ⟨rfl, rfl, false, rfl, fun h => by cases h⟩
    | true =>
      refine gz_ ?_
      exact WE.again ⟨i + 1, rfl, rfl, rfl, rfl, hlt⟩ (by omega) ⟨rfl, rfl, congrArg (fun z => some (Value.int .i64 z)) hwi, trivial⟩ sm_

structure OkSpd (l : Lay) (sp : List Spn) (us : List Uni) : Prop where
  lay : OkLay l
  n0 : 0 < us.length
  n4 : us.length ≤ 4
  sl : sp.length = us.length
  each : ∀ (i : Nat) (x : Spn) (u : Uni), sp[i]? = some x → us[i]? = some u → OkSpn l x ∧ u.vers = l.vers ∧ u.wide = l.wide ∧ u.size = l.size ∧ OkUni u
  light : sumBy wU us ≤ 1048576
theorem areSpanned_ok {Γ : Env} {H : List Blk} {l : Lay} {sp : List Spn} {us : List Uni} {v1 v2 : Value} (h1 : Arr Γ (SpnC Γ) v1 sp) (h2 : Arr Γ (UniC Γ) v2 us)
   (hsl : sp.length ≤ 2147483647) (hsf : ∀ x ∈ sp, FitS x) (hul : us.length ≤ 2147483647) (huf : ∀ u ∈ us, FitU u) :
   Spc Tryz.prog 9 #[layV l, v1, v2] Γ H (fun v Γ' H' => Γ = Γ' ∧ H = H' ∧ ∃ b, v = .bool b ∧ (b = true → OkSpd l sp us)) := by
  have hArr := h2
  obtain ⟨a1, cap1, cells1, rfl, hcap1, hA1, hL1⟩ := h1
  obtain ⟨a0, cap0, cells0, rfl, hcap0, hA0, hL0⟩ := h2
  refine Spc.body3 Tryz.func9 rfl Tryz.ntmps9 rfl ?_
  refine WC.seq ?_
  refine WC.region ?_
  (refine WL.box rfl spi_ rfl ?_; intro b3)
  refine gs_ ?_
  refine WE.then_ ?_
  refine WC.seq ?_
  refine WC.cutM (fun R' Γ' H' => R' = [(1, .slice a1 sp.length cap1), (2, .slice a0 us.length cap0), (3, .pointer (some ⟨b3, 0, none⟩))] ∧ Γ = Γ' ∧ H' = (b3, cel [.int .i64 l.vers, .bool l.wide, .int .i64 l.size, .bool l.big, .bool l.far] 23) :: H ∧ (OkLay l ∧ 0 < us.length ∧ us.length ≤ 4 ∧ sp.length = us.length)) ?_ ?_
  · refine gz_ ?_
    refine WL.call rfl Tryz.call22 rfl rfl (by exact (isLayout_ok l)) ?_
    rintro _ _ _ - ⟨rfl, rfl, bl, rfl, hbl⟩
    refine gz_ ?_
    cases bl with
    | false =>
      refine gz_ ?_
      refine WE.drop (b := b3) pk_ ?_
      exact end_1 rfl rfl (Env.le.rfl' _) ⟨rfl, rfl, false, rfl, fun h => by cases h⟩
    | true =>
      refine gz_ ?_
      cases q1 : ((us.length : Int) == 0) with
      | true =>
        refine gz_ ?_
        refine WE.drop (b := b3) pk_ ?_
        exact end_1 rfl rfl (Env.le.rfl' _) ⟨rfl, rfl, false, rfl, fun h => by cases h⟩
      | false =>
        refine gz_ ?_
        cases q2 : decide ((4 : Int) < (us.length : Int)) with
        | true =>
          refine gz_ ?_
          refine WE.drop (b := b3) pk_ ?_
          exact end_1 rfl rfl (Env.le.rfl' _) ⟨rfl, rfl, false, rfl, fun h => by cases h⟩
        | false =>
          refine gz_ ?_
          have k1 := ne_of_beq_false q1
          have k2 := of_decide_eq_false q2
          by_cases hq : sp.length = us.length
          · rw [show ((sp.length : Int) != (us.length : Int)) = false from by rw [hq]; simp]
            refine gz_ ?_
            exact WE.mid ⟨rfl, rfl, rfl, hbl rfl, by omega, by omega, hq⟩ sr_ sm_
          · rw [show ((sp.length : Int) != (us.length : Int)) = true from bne_iff_ne.2 (by omega)]
            refine gz_ ?_
            refine WE.drop (b := b3) pk_ ?_
            exact end_1 rfl rfl (Env.le.rfl' _) ⟨rfl, rfl, false, rfl, fun h => by cases h⟩
  rintro R' Γ' H' ⟨rfl, rfl, rfl, hlay, hn0, hn4, hle⟩
  refine gz_ ?_
  refine WC.loopE (fun m R' Γ' H' => ∃ i, R' = [(1, .slice a1 sp.length cap1), (2, .slice a0 us.length cap0), (3, .pointer (some ⟨b3, 0, none⟩)), (29, .slice a0 us.length cap0), (30, .int .i64 (us.length : Int)), (31, .int .i64 ((i : Nat) : Int))] ∧ Γ = Γ' ∧ H' = (b3, cel [.int .i64 l.vers, .bool l.wide, .int .i64 l.size, .bool l.big, .bool l.far] 23) :: H ∧ m = us.length - i ∧ i ≤ us.length ∧ ∀ (k : Nat) (x : Spn) (u : Uni), k < i → sp[k]? = some x → us[k]? = some u → OkSpn l x ∧ u.vers = l.vers ∧ u.wide = l.wide ∧ u.size = l.size ∧ OkUni u)
    ⟨0, rfl, rfl, rfl, rfl, Nat.zero_le _, fun _ _ _ h => by omega⟩ sr_ (fun _ h => h) ?_
  rintro m R' Γ' H' ⟨i, rfl, rfl, rfl, rfl, hi, hok⟩
  rcases Nat.lt_or_ge i us.length with hlt | hge
  case inr =>
    have ei : i = us.length := by omega
    subst ei
    refine gz_ ?_
    refine WC.condF rfl (decide_eq_false (by omega)) ?_
    refine gz_ ?_
    refine WL.call rfl Tryz.call25 rfl rfl (by exact (areUnits_ok hArr hul huf)) ?_
    rintro _ _ _ - ⟨rfl, rfl, bl, rfl, hbl⟩
    refine gz_ ?_
    refine WE.drop (b := b3) pk_ ?_
    exact end_1 rfl rfl (Env.le.rfl' _) ⟨rfl, rfl, bl, rfl, fun hb => ⟨hlay, hn0, hn4, hle, fun k x u hx hu => hok k x u (List.getElem?_eq_some_iff.1 hu).1 hx hu, hbl hb⟩⟩
  case inl =>
    obtain ⟨u, hu⟩ : ∃ u, us[i]? = some u := ⟨_, List.getElem?_eq_getElem hlt⟩
    obtain ⟨x, hx⟩ : ∃ x, sp[i]? = some x := ⟨_, List.getElem?_eq_getElem (by omega)⟩
    obtain ⟨bb, oo, c, rfl, hP, hc⟩ := elemA hA0 hL0 (fun _ _ h => h.len) (w := 4) (by decide) hu
    have hP2 := hP
    obtain ⟨vn, rfl, a2, cap2, cells2, rfl, -, -⟩ := hP
    obtain ⟨bb1, oo1, c, rfl, hQ, hc1⟩ := elemA hA1 hL1 (fun _ _ h => h.len) (w := 5) (by decide) hx
    have hQ2 := hQ
    obtain ⟨vn, rfl, a3, cap3, cells3, rfl, -, -⟩ := hQ
    have hwi : IntKind.i64.wrap ((i : Int) + 1) = (i : Int) + 1 := w_i64 (by omega) (by omega)
    refine gz_ ?_
    refine WC.condT rfl (by first | rfl | exact decide_eq_true (by omega) | (simp; (first | done | fail)) | (simp; omega)) ?_
    refine gz_ ?_
    (refine WL.alloc tab_ok rfl rfl ?_; intro b8)
    refine gz_ ?_
    refine WC.draw 33 (.take 0 (.take 1 (.take 2 (.take 3 (.take 4 (.one 5 (.take 6 (.take 7 (.take 8 (.take 9 (.take 10 (.take 11 (.take 12 (.take 13 (.take 14 (.take 15 (.take 16 (.take 17 (.take 18 (.take 19 (.take 20 (.take 21 (.take 22 (.take 23 (.take 24 (.take 25 (.take 26 (.take 27 (.take 28 (.take 29 (.one 30 (.take 31 (.take 32 .done))))))))))))))))))))))))))))))))) ((b3, _) :: (b8, _) :: []) mixed (by (repeat (first | exact trivial | refine ⟨⟨_, pk_⟩, ?_⟩ | exact subH_self _ | apply subH_cons)); (first | done | fail)) (by decide +kernel) ?_
    refine dz_ ?_
    refine WL.call rfl Tryz.call23 rfl rfl (by exact (isSpan_ok hQ2 (hsf x (List.mem_of_getElem? hx)))) ?_
    rintro _ _ _ - ⟨rfl, rfl, bl, rfl, hbl⟩
    refine dz_ ?_
    cases bl with
    | false =>
      refine dz_ ?_
      refine gz_ ?_
      refine WE.drop (b := b3) pk_ ?_
      refine WE.drop (b := b8) pk_ ?_
      exact end_1 rfl rfl (Env.le.rfl' _) ⟨rfl, rfl, false, rfl, fun h => by cases h⟩
    | true =>
      refine dz_ ?_
      by_cases e1 : u.vers = l.vers
      case neg =>
        rw [show (u.vers != l.vers) = true from bne_iff_ne.2 e1]
        refine dz_ ?_
        refine gz_ ?_
        refine WE.drop (b := b3) pk_ ?_
        refine WE.drop (b := b8) pk_ ?_
        exact end_1 rfl rfl (Env.le.rfl' _) ⟨rfl, rfl, false, rfl, fun h => by cases h⟩
      rw [show (u.vers != l.vers) = false from by rw [e1]; simp]
      refine dz_ ?_
      by_cases e2 : u.wide = l.wide
      case neg =>
        rw [show (!(u.wide == l.wide)) = true from by simp [e2]]
        refine dz_ ?_
        refine gz_ ?_
        refine WE.drop (b := b3) pk_ ?_
        refine WE.drop (b := b8) pk_ ?_
        exact end_1 rfl rfl (Env.le.rfl' _) ⟨rfl, rfl, false, rfl, fun h => by cases h⟩
      rw [show (!(u.wide == l.wide)) = false from by rw [e2]; simp]
      refine dz_ ?_
      by_cases e3 : u.size = l.size
      case neg =>
        rw [show (u.size != l.size) = true from bne_iff_ne.2 e3]
        refine dz_ ?_
        refine gz_ ?_
        refine WE.drop (b := b3) pk_ ?_
        refine WE.drop (b := b8) pk_ ?_
        exact end_1 rfl rfl (Env.le.rfl' _) ⟨rfl, rfl, false, rfl, fun h => by cases h⟩
      rw [show (u.size != l.size) = false from by rw [e3]; simp]
      refine dz_ ?_
      refine WL.call rfl Tryz.call24 rfl rfl (by exact (isUnit_ok hP2 (huf u (List.mem_of_getElem? hu)))) ?_
      rintro _ _ _ - ⟨rfl, rfl, bl2, rfl, hbl2⟩
      refine dz_ ?_
      cases bl2 with
      | false =>
        refine dz_ ?_
        refine gz_ ?_
        refine WE.drop (b := b3) pk_ ?_
        refine WE.drop (b := b8) pk_ ?_
        exact end_1 rfl rfl (Env.le.rfl' _) ⟨rfl, rfl, false, rfl, fun h => by cases h⟩
      | true =>
        refine dz_ ?_
        refine gz_ ?_
        refine WE.again ⟨i + 1, rfl, rfl, rfl, rfl, hlt, fun k x' u' hk hx' hu' => ?_⟩ (by omega) ⟨rfl, rfl, rfl, rfl, rfl, congrArg (fun z => some (Value.int .i64 z)) hwi, trivial⟩ sm_
        rcases Nat.lt_or_ge k i with hki | hki
        · exact hok k x' u' hki hx' hu'
        · have ek : k = i := by omega
          subst ek
          rw [hx] at hx'; injection hx' with hx'; subst hx'
          rw [hu] at hu'; injection hu' with hu'; subst hu'
          exact ⟨hbl rfl, e1, e2, e3, hbl2 rfl⟩
end Go.Proofs.YtdplhbmoidepgaaGreatDoor
