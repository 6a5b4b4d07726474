/- Parts of the proof: Qa Gg Mb Gh Ha Hb Hc Hd Qb Qc He. -/
import Derived.Test.YtbgkbgoonjkghaaGreatDoorA3
import Derived.Test.YtbgkbgoonjkghaaGreatDoorA5
import Derived.Laws.Bits128
namespace Go.Proofs.YtbgkbgoonjkghaaGreatDoor
open Go Go.Sl
set_option maxRecDepth 10000
set_option maxHeartbeats 40000000
theorem otu1_ok {Γ : Env} {F : List Blk} {b2 b3 pd pu n i off o : Nat} (h17 : Rd Γ F pd 17 (.slice (some ⟨pu, 0, none⟩) n n)) (hi : i < n) (hu : Rd Γ F pu (i * 9 + 1) (.int .u32 (o : Int))) :
  Spc Tryz.prog 110 #[.int .i64 (i : Int), .pointer (some ⟨b2, 0, none⟩), .pointer (some ⟨b3, 0, none⟩)] Γ ((b3, cel [.int .u32 (off : Int)] 90) :: (b2, cel [.pointer (some ⟨pd, 0, none⟩)] 75) :: F)
   (fun v Γ' H' => Γ = Γ' ∧ H' = (b3, cel [.int .u32 (off : Int)] 90) :: (b2, cel [.pointer (some ⟨pd, 0, none⟩)] 75) :: F ∧ v = .bool (decide (off < o))) := by
 have e : 0 + Int.toNat ((i : Nat) : Int) * 9 + 1 = i * 9 + 1 := by omega
 rw [← e] at hu
 have g17 := (h17.cons (x := (b2, cel [.pointer (some ⟨pd, 0, none⟩)] 75))).cons (x := (b3, cel [.int .u32 (off : Int)] 90))
 have gu := (hu.cons (x := (b2, cel [.pointer (some ⟨pd, 0, none⟩)] 75))).cons (x := (b3, cel [.int .u32 (off : Int)] 90))
 refine Spc.body3 Tryz.func110 rfl Tryz.ntmps110 rfl ?_
 refine gz_ ?_
 refine WC.draw 11 (.take 0 (.take 1 (.take 2 (.take 3 (.take 4 (.take 5 (.take 6 (.take 7 (.take 8 (.take 9 (.one 10 .done))))))))))) ((b3, _) :: (b2, _) :: F) mixed xsb_ (by decide +kernel) ?_
 refine dz_ ?_
 refine gz_ ?_
 refine end_1 rfl rfl (Env.le.rfl' _) ⟨rfl, rfl, ?_⟩
 congr 1
 have : ((off : Int) < (o : Int)) ↔ off < o := Int.ofNat_lt
 simp [this]
theorem search_ok {Γ : Env} {H : List Blk} {n m : Nat} {p : Nat → Bool} {x2 x3 : Value} (hn : n ≤ 2147483647) (hm : m ≤ n) (h1 : ∀ i, i < m → p i = false) (h2 : ∀ i, m ≤ i → i < n → p i = true)
  (hf : ∀ i, i < n → Spc Tryz.prog 110 #[.int .i64 (i : Int), x2, x3] Γ H (fun v Γ' H' => Γ = Γ' ∧ H' = H ∧ v = .bool (p i))) :
  Spc Tryz.prog 109 #[.int .i64 (n : Int), .func (.func 110) #[] #[x2, x3]] Γ H (fun v Γ' H' => Γ = Γ' ∧ H' = H ∧ v = .int .i64 (m : Int)) := by
 refine Spc.body2 Tryz.func109 rfl Tryz.ntmps109 rfl ?_
 refine gz_ ?_
 refine WC.loopE (fun k R' Γ' H' => ∃ i j : Nat, R' = [(1, .func (.func 110) #[] #[x2, x3]), (5, .int .i64 (i : Int)), (6, .int .i64 (j : Int))] ∧ Γ = Γ' ∧ H' = H ∧ k = j - i ∧ i ≤ m ∧ m ≤ j ∧ j ≤ n)
  ⟨0, n, rfl, rfl, rfl, rfl, Nat.zero_le _, hm, Nat.le_refl _⟩ sr_ (fun _ h => h) ?_
 rintro k R' Γ' H' ⟨i, j, rfl, rfl, rfl, rfl, hi, hj, hjn⟩
 rcases Nat.lt_or_ge i j with hlt | hge
 case inr =>
  have : i = m := by omega
  subst this
  refine gz_ ?_
  refine WC.condF rfl (decide_eq_false (by omega)) ?_
  refine gz_ ?_
  exact end_1 rfl rfl (Env.le.rfl' _) ⟨rfl, rfl, rfl⟩
 case inl =>
  refine gz_ ?_
  refine WC.condT rfl tr_ ?_
  refine gz_ ?_
  have hmid : IntKind.i64.wrap ((IntKind.u64.wrap (IntKind.i64.wrap ((i : Int) + (j : Int)))).fdiv (2 ^ min (Int.toNat 1) IntKind.u64.bits)) = (((i + j) / 2 : Nat) : Int) := by
   rw [show ((2 : Int) ^ min (Int.toNat 1) IntKind.u64.bits) = 2 from by decide, w_i64 (x := (i : Int) + (j : Int)) (by omega) (by omega), w_u64 (by omega) (by omega), Int.fdiv_eq_ediv_of_nonneg _ (by decide), w_i64 (by omega) (by omega)]
   omega
  rw [hmid]
  have hh1 : i ≤ (i + j) / 2 := by omega
  have hh2 : (i + j) / 2 < j := by omega
  generalize (i + j) / 2 = q at hh1 hh2
  refine WL.call rfl Tryz.call110 rfl rfl (by exact (hf q (by omega))) ?_
  rintro _ _ _ - ⟨rfl, rfl, rfl⟩
  refine gz_ ?_
  have hwq : IntKind.i64.wrap ((q : Int) + 1) = ((q + 1 : Nat) : Int) := by rw [w_i64 (by omega) (by omega)]; omega
  cases hp : p q with
  | false =>
   have : q < m := by
    rcases Nat.lt_or_ge q m with h | h
    ·exact h
    ·rw [h2 q h (by omega)] at hp; cases hp
   refine gz_ ?_
   rw [hwq]
   exact WE.again ⟨q + 1, j, rfl, rfl, rfl, rfl, by omega, hj, hjn⟩ (by omega) sr_ (fun _ h => h)
  | true =>
   have : m ≤ q := by
    rcases Nat.lt_or_ge q m with h | h
    ·rw [h1 q h] at hp; cases hp
    ·exact h
   refine gz_ ?_
   exact WE.again ⟨i, q, rfl, rfl, rfl, rfl, hi, this, by omega⟩ (by omega) sr_ (fun _ h => h)
def offU (big : Bool) (us : List PU) (i : Nat) : Nat := (pusB big (us.take i)).length + (match us[i]? with | some u => lsz u.wide + hsz u | none => 0)
theorem offU_get {big : Bool} {us : List PU} {i : Nat} {u : PU} (h : us[i]? = some u) : offU big us i = (pusB big (us.take i)).length + lsz u.wide + hsz u := by unfold offU; rw [h]; simp only []; omega
theorem offU_step {big : Bool} {us : List PU} {i : Nat} {u : PU} (h : us[i]? = some u) : offU big us i + u.body.length = (pusB big (us.take (i + 1))).length := by
 rw [offU_get h, pusB_take h, puB_length]; omega
theorem pusB_take_mono {big : Bool} {us : List PU} : ∀ {i j : Nat}, i ≤ j → j ≤ us.length → (pusB big (us.take i)).length ≤ (pusB big (us.take j)).length := by
 intro i j h
 induction j with
 | zero => intro _; have : i = 0 := by omega
           subst this; exact Nat.le_refl _
 | succ j ih =>
  intro hj
  rcases Nat.lt_or_ge i (j + 1) with hlt | hge
  ·have h1 := ih (by omega) (by omega)
   obtain ⟨u, hu⟩ : ∃ u, us[j]? = some u := ⟨_, List.getElem?_eq_getElem (by omega)⟩
   rw [pusB_take hu]; omega
  ·have : i = j + 1 := by omega
   subst this; exact Nat.le_refl _
theorem offU_lt {big : Bool} {us : List PU} {i j : Nat} (h : i < j) (hj : j < us.length) : offU big us i < offU big us j := by
 obtain ⟨u, hu⟩ : ∃ u, us[i]? = some u := ⟨_, List.getElem?_eq_getElem (by omega)⟩
 obtain ⟨v, hv⟩ : ∃ u, us[j]? = some u := ⟨_, List.getElem?_eq_getElem hj⟩
 have h1 := offU_step (big := big) hu
 have h2 := pusB_take_mono (big := big) (us := us) (i := i + 1) (j := j) h (by omega)
 have h3 := lsz_bd v.wide
 rw [offU_get hv]; omega
structure UnR (Γ : Env) (F : List Blk) (big : Bool) (pd pu : Nat) (us : List PU) : Prop where
 sl : Rd Γ F pd 17 (.slice (some ⟨pu, 0, none⟩) us.length us.length)
 cells : ∃ cs F2, Pick F pu (cel cs 279) F2 ∧ UQs Γ big 0 us cs
theorem UnR.cell {Γ : Env} {F : List Blk} {big : Bool} {pd pu : Nat} {us : List PU} (h : UnR Γ F big pd pu us) {i : Nat} {u : PU} (hu : us[i]? = some u) : ∃ d r es c u5, Byt Γ d u.body ∧ Γ.imm r = some (.map (es : List MapEntry).toArray c) ∧ AbEnts Γ u.vers u.abs es ∧
  ∀ (k : Nat) (v : Value), (uqc (pusB big (us.take i)).length (offU big us i) d r u5 u.size u.vers u.wide [])[k]? = some v → Rd Γ F pu (i * 9 + k) v := by
 obtain ⟨cs, F2, hp, hcs⟩ := h.cells
 obtain ⟨p, c0, q, rfl, hpl, ⟨d, r, es, cm, u5, rfl, hd, him, hes⟩, -⟩ := hcs.get hu
 refine ⟨d, r, es, cm, u5, hd, him, hes, fun k v hk => .inr ⟨_, _, _, _, hp, ?_⟩⟩
 simp only [List.getElem?_toArray]
 rw [List.getElem?_append_right (by omega), hpl, Nat.add_sub_cancel_left, List.getElem?_append_left (List.getElem?_eq_some_iff.1 (by rw [offU_get hu] at hk; rw [Nat.zero_add]; exact hk)).1]
 rw [offU_get hu] at hk; rw [Nat.zero_add]; exact hk
theorem UnR.cons {Γ : Env} {F : List Blk} {x : Blk} {big : Bool} {pd pu : Nat} {us : List PU} (h : UnR Γ F big pd pu us) : UnR Γ (x :: F) big pd pu us := by
 obtain ⟨h1, cs, F2, h2, h3⟩ := h
 exact ⟨h1.cons, cs, x :: F2, Pick.there h2, h3⟩
theorem offsetToUnit_ok {Γ : Env} {F : List Blk} {pd pu off k : Nat} {big : Bool} {us : List PU} {u : PU} (hR : UnR Γ F big pd pu us) (hn : us.length ≤ 2147483647) (hall : (pusB big us).length < 2147483648) (hu : us[k]? = some u) (h1 : offU big us k ≤ off) (h2 : off < offU big us k + u.body.length) :
  Spc Tryz.prog 97 #[.pointer (some ⟨pd, 0, none⟩), .int .u32 (off : Int)] Γ F (fun v Γ' H' => Γ = Γ' ∧ H' = F ∧ v = .int .i64 (k : Int)) := by
 have hk := (List.getElem?_eq_some_iff.1 hu).1
 have hstep := offU_step (big := big) hu
 have hmono := pusB_take_mono (big := big) (us := us) (i := k + 1) (j := us.length) (by omega) (Nat.le_refl _)
 rw [List.take_length] at hmono
 have gsl := hR.sl
 refine Spc.body2 Tryz.func97 rfl Tryz.ntmps97 rfl ?_
 refine WC.seq ?_
 refine WC.region ?_
 (refine WL.box rfl spi_ rfl ?_; intro b2)
 (refine WL.box rfl spi_ rfl ?_; intro b3)
 refine gz_ ?_
 have g17 := (gsl.cons (x := (b2, cel [.pointer (some ⟨pd, 0, none⟩)] 75))).cons (x := (b3, cel [.int .u32 (off : Int)] 90))
 refine gz_ ?_
 refine WL.call rfl Tryz.call109 rfl rfl (by exact (search_ok (n := us.length) (m := k + 1) (p := fun i => decide (off < offU big us i)) hn (by omega) (fun i hi => by
   have : offU big us i ≤ offU big us k := by
    rcases Nat.lt_or_ge i k with h | h
    ·exact Nat.le_of_lt (offU_lt h hk)
    ·have : i = k := by omega
     subst this; exact Nat.le_refl _
   simp only [decide_eq_false_iff_not]; omega) (fun i hi hil => by
   obtain ⟨v, hv⟩ : ∃ u, us[i]? = some u := ⟨_, List.getElem?_eq_getElem hil⟩
   have h3 := pusB_take_mono (big := big) (us := us) (i := k + 1) (j := i) hi (by omega)
   have h4 := lsz_bd v.wide
   have h5 := offU_get (big := big) hv
   simp only [decide_eq_true_eq]; omega) (fun i hi => by
   obtain ⟨v, hv⟩ : ∃ u, us[i]? = some u := ⟨_, List.getElem?_eq_getElem hi⟩
   obtain ⟨d, r, es, c, u5, -, -, -, hrd⟩ := hR.cell hv
   exact otu1_ok (off := off) gsl hi (hrd 1 _ rfl)))) ?_
 rintro _ _ _ - ⟨rfl, rfl, rfl⟩
 obtain ⟨d, r, es, c, u5, hd, -, -, hrd⟩ := hR.cell hu
 obtain ⟨ad, cd, rfl, -, -⟩ := hd
 have hk1 : IntKind.i64.wrap (((k + 1 : Nat) : Int) - 1) = (k : Int) := by rw [w_i64 (by omega) (by omega)]; omega
 refine gz_ ?_
 rw [show (((k + 1 : Nat) : Int) == 0) = false from beq_eq_false_iff_ne.2 (by omega)]
 refine gz_ ?_
 rw [hk1]
 refine gz_ ?_
 have c1 : Rd Γ ((b3, cel [.int .u32 (off : Int)] 90) :: (b2, cel [.pointer (some ⟨pd, 0, none⟩)] 75) :: F) pu (0 + Int.toNat ((k : Nat) : Int) * 9 + 1) (.int .u32 (offU big us k : Int)) := by
  rw [show 0 + Int.toNat ((k : Nat) : Int) * 9 + 1 = k * 9 + 1 by omega]; exact ((hrd 1 _ rfl).cons).cons
 have c2 : Rd Γ ((b3, cel [.int .u32 (off : Int)] 90) :: (b2, cel [.pointer (some ⟨pd, 0, none⟩)] 75) :: F) pu (0 + Int.toNat ((k : Nat) : Int) * 9 + 2) (.slice ad u.body.length cd) := by
  rw [show 0 + Int.toNat ((k : Nat) : Int) * 9 + 2 = k * 9 + 2 by omega]; exact ((hrd 2 _ rfl).cons).cons
 refine WC.draw 21 (.take 0 (.take 1 (.take 2 (.take 3 (.take 4 (.take 5 (.take 6 (.take 7 (.take 8 (.take 9 (.take 10 (.take 11 (.take 12 (.take 13 (.take 14 (.take 15 (.take 16 (.take 17 (.take 18 (.take 19 (.take 20 .done))))))))))))))))))))) ((b3, _) :: (b2, _) :: F) mixed xsb_ (by decide +kernel) ?_
 refine dz_ ?_
 rw [show decide ((offU big us k : Int) ≤ (off : Int)) = true from decide_eq_true (by omega)]
 refine dz_ ?_
 have hw2 : IntKind.u32.wrap ((offU big us k : Int) + IntKind.u32.wrap ((u.body.length : Nat) : Int)) = ((offU big us k + u.body.length : Nat) : Int) := by
  rw [w_u32 (x := ((u.body.length : Nat) : Int)) (by omega) (by omega), w_u32 (by omega) (by omega)]; omega
 rw [hw2]
 refine gz_ ?_
 refine WC.condT rfl (decide_eq_true (by omega)) ?_
 refine gz_ ?_
 rw [hk1]
 refine WE.drop (b := b3) pk_ ?_
 refine WE.drop (b := b2) pk_ ?_
 exact end_1 rfl rfl (Env.le.rfl' _) ⟨rfl, rfl, rfl⟩
end Go.Proofs.YtbgkbgoonjkghaaGreatDoor
namespace Go.Sl
open Go
section
variable {P : Program} {ops : Array Oper} {Q : Post} {n : Nat} {D : List Deferred} {R : Regs} {Γ : Env} {H : List Blk} {rest : List Oper}
variable {d : Nat} {ty : TypeId} {pos : String} {aft : Array Edge}
end
inductive Sn : List Blk → List Blk → Prop where
 | sm {H H2} : Sm H H2 → Sn H H2
 | pick {H b o H' H2} : Pick H b o H' → Sn H' H2 → Sn H ((b, o) :: H2)
 | tk {H G H' H2} : Tk H G H' → Sn H' H2 → Sn H (G ++ H2)
theorem Sn.st {H H2 : List Blk} (h : Sn H H2) : ∃ L, H.Perm (L ++ H2) := by
 induction h with
 | sm h => exact h.st (Γ := ⟨fun _ => none, default, fun _ _ => 0, #[]⟩)
 | pick hp _ ih =>
  obtain ⟨L, hL⟩ := ih
  exact ⟨L, hp.perm.trans ((List.Perm.cons _ hL).trans List.perm_middle.symm)⟩
 | @tk H G H' H2 hp _ ih =>
  obtain ⟨L, hL⟩ := ih
  refine ⟨L, hp.perm.trans ((List.Perm.append_left _ hL).trans ?_)⟩
  rw [← List.append_assoc, ← List.append_assoc]
  exact List.Perm.append_right _ List.perm_append_comm
theorem Sn.go {Γ : Env} {H H2 : List Blk} (h : Sn H H2) : ∀ w, St Γ H w → St Γ H2 w := fun w hw => by
 obtain ⟨L, hL⟩ := h.st
 exact St.tk Tk.here (hw.perm hL)
end Go.Sl
namespace Go.Proofs.YtbgkbgoonjkghaaGreatDoor
open Go Go.Sl
set_option maxRecDepth 10000
set_option maxHeartbeats 40000000
structure OkLay (l : Lay) : Prop where
 v2 : 2 ≤ l.vers
 v5 : l.vers ≤ 5
 wd : l.wide = true → 2 < l.vers
 sz : l.size = 4 ∨ l.size = 8
abbrev layV (l : Lay) : Value := .agg #[.int .i64 l.vers, .bool l.wide, .int .i64 l.size, .bool l.big, .bool l.far]
theorem isLayout_ok {Γ : Env} {H : List Blk} (l : Lay) :
  Spc Tryz.prog 16 #[layV l] Γ H (fun v Γ' H' => Γ = Γ' ∧ H = H' ∧ ∃ b, v = .bool b ∧ (b = true → OkLay l)) := by
 obtain ⟨vers, wide, size, big, far⟩ := l
 refine Spc.body1 Tryz.func16 rfl Tryz.ntmps16 rfl ?_
 refine WC.seq ?_
 refine WC.region ?_
 (refine WL.box rfl spi_ rfl ?_; intro b)
 refine gz_ ?_
 cases h1 : decide ((2 : Int) ≤ vers)
 ·refine gz_ ?_
  refine WE.drop (b := b) pk_ ?_
  exact end_1 rfl rfl (Env.le.rfl' _) ⟨rfl, rfl, _, rfl, fun h => by cases h⟩
 refine gz_ ?_
 cases h2 : decide (vers ≤ 5)
 ·refine gz_ ?_
  refine WE.drop (b := b) pk_ ?_
  exact end_1 rfl rfl (Env.le.rfl' _) ⟨rfl, rfl, _, rfl, fun h => by cases h⟩
 have k1 := of_decide_eq_true h1
 have k2 := of_decide_eq_true h2
 refine gz_ ?_
 cases wide with
 | false =>
  refine gz_ ?_
  by_cases h4 : size = 4
  ·rw [show (size == 4) = true from beq_iff_eq.2 h4]
   refine gz_ ?_
   refine WE.drop (b := b) pk_ ?_
   exact end_1 rfl rfl (Env.le.rfl' _) ⟨rfl, rfl, _, rfl, fun _ => ⟨k1, k2, fun h => (by cases h), .inl h4⟩⟩
  ·rw [show (size == 4) = false from beq_eq_false_iff_ne.2 h4]
   refine gz_ ?_
   refine WE.drop (b := b) pk_ ?_
   exact end_1 rfl rfl (Env.le.rfl' _) ⟨rfl, rfl, _, rfl, fun h => ⟨k1, k2, fun h => (by cases h), .inr (eq_of_beq h)⟩⟩
 | true =>
  refine gz_ ?_
  cases h3 : decide ((2 : Int) < vers)
  ·refine gz_ ?_
   refine WE.drop (b := b) pk_ ?_
   exact end_1 rfl rfl (Env.le.rfl' _) ⟨rfl, rfl, _, rfl, fun h => by cases h⟩
  have k3 := of_decide_eq_true h3
  refine gz_ ?_
  by_cases h4 : size = 4
  ·rw [show (size == 4) = true from beq_iff_eq.2 h4]
   refine gz_ ?_
   refine WE.drop (b := b) pk_ ?_
   exact end_1 rfl rfl (Env.le.rfl' _) ⟨rfl, rfl, _, rfl, fun _ => ⟨k1, k2, fun _ => k3, .inl h4⟩⟩
  ·rw [show (size == 4) = false from beq_eq_false_iff_ne.2 h4]
   refine gz_ ?_
   refine WE.drop (b := b) pk_ ?_
   exact end_1 rfl rfl (Env.le.rfl' _) ⟨rfl, rfl, _, rfl, fun h => ⟨k1, k2, fun _ => k3, .inr (eq_of_beq h)⟩⟩
def m64 (n : Nat) : Nat := n % 18446744073709551616
def plcsL : Nat → List Pie → List (Nat × Nat)
 | _, [] => []
 | b, p :: ps => if p.kind = 0 then (m64 (b + p.a), m64 (b + p.b)) :: plcsL b ps else if p.kind = 1 then plcsL p.a ps
  else if p.kind = 2 then (p.a, p.b) :: plcsL b ps else if p.kind = 3 then (p.a, m64 (p.a + p.b)) :: plcsL b ps else plcsL b ps
def plcs (x : Spn) : List (Nat × Nat) := if x.lst then plcsL x.low x.pies else [(x.low, x.high)]
def pcells : List (Nat × Nat) → List Value
 | [] => []
 | r :: l => .int .u64 (r.1 : Int) :: .int .u64 (r.2 : Int) :: pcells l
structure OkPie (v : Int) (p : Pie) : Prop where
 a : p.a < 2147483648
 b : p.b < 2147483648
 k0 : 0 ≤ p.kind
 k3 : p.kind ≤ 3
 kv : 1 < p.kind → 5 ≤ v
 lt : p.kind = 0 ∨ p.kind = 2 → p.a < p.b
 ne : p.kind = 3 → p.b ≠ 0
structure OkSpn (l : Lay) (x : Spn) : Prop where
 lay : OkLay l
 low : x.low < 2147483648
 high : x.high < 2147483648
 np : x.pies.length ≤ 100
 len : x.len = true → 4 ≤ l.vers
 flat : x.lst = false → x.low < x.high ∧ x.pies = []
 pie : x.lst = true → ∀ p ∈ x.pies, OkPie l.vers p
 plc : x.lst = true → ∀ r ∈ plcs x, r.2 < 2147483648
def PairC (r : Nat × Nat) (c : List Value) : Prop := c = [.int .u64 (r.1 : Int), .int .u64 (r.2 : Int)]
theorem PairC.len {r : Nat × Nat} {c : List Value} (h : PairC r c) : c.length = 2 := by cases h; rfl
end Go.Proofs.YtbgkbgoonjkghaaGreatDoor
namespace Go.Sl
theorem sn_ {p : Prop} (h : p := by exact (by first | (apply Sn.go; (repeat (first | with_reducible exact Sn.sm Sm.refl | (apply Sn.pick; focus (first | assumption | ((repeat (first | apply Pick.here | apply Pick.there | apply Pick.over)); (first | done | fail)))) | (apply Sn.tk; focus ((repeat (first | apply Tk.here | apply Tk.all | apply Tk.skip | apply Tk.over)); (first | done | fail))))); (first | done | (apply Sn.sm; (repeat (first | with_reducible apply Sm.refl | apply Sm.drop | apply Sm.dropA)); (first | done | fail)))) | (refine Sn.go ?_; (repeat (first | exact Sn.sm Sm.refl | refine Sn.pick pk_ ?_ | refine Sn.tk tk_ ?_)); (first | done | (refine Sn.sm ?_; (repeat (first | exact Sm.refl | apply Sm.drop | apply Sm.dropA)); (first | done | fail)))))) : p := h
end Go.Sl
namespace Go.Proofs.YtbgkbgoonjkghaaGreatDoor
open Go Go.Sl
set_option maxRecDepth 10000
set_option maxHeartbeats 40000000
structure OkSpd (l : Lay) (sp : List Spn) (us : List Uni) : Prop where
 lay : OkLay l
 n0 : 0 < us.length
 n4 : us.length ≤ 4
 sl : sp.length = us.length
 each : ∀ (i : Nat) (x : Spn) (u : Uni), sp[i]? = some x → us[i]? = some u → OkSpn l x ∧ u.vers = l.vers ∧ u.wide = l.wide ∧ u.size = l.size ∧ OkUni u
 light : sumBy wU us ≤ 1048576
theorem bytesV_append (a b : List UInt8) : bytesV (a ++ b) = bytesV a ++ bytesV b := List.map_append
theorem Ow.shape {s : Nat} {v : Value} {n : Nat} {l : List Value} {Hs : List Blk} (h : Ow s v n l Hs) : ∃ a cap, v = .slice a n cap := by
 cases h with
 | nil => exact ⟨_, _, rfl⟩
 | row _ _ _ _ => exact ⟨_, _, rfl⟩
theorem fixL_succ : ∀ (i n : Nat), fixL n (i + 1) = fixL n i ++ [UInt8.ofNat (n / 256 ^ i % 256)]
 | 0, n => by simp [fixL]
 | i + 1, n => by
  show UInt8.ofNat (n % 256) :: fixL (n / 256) (i + 1) = UInt8.ofNat (n % 256) :: fixL (n / 256) i ++ _
  rw [fixL_succ i (n / 256), Nat.div_div_eq_div_mul, Nat.pow_succ, Nat.mul_comm 256]; rfl
theorem reps_succ (k : Nat) (z : Value) : reps (k + 1) [z] = reps k [z] ++ [z] := by
 induction k with
 | zero => rfl
 | succ k ih =>
  have h2 : reps (k + 1) [z] ++ [z] = [z] ++ (reps k [z] ++ [z]) := by rw [show reps (k + 1) [z] = [z] ++ reps k [z] from rfl, List.append_assoc]
  rw [h2, ← ih]; rfl
theorem fixed_ok {Γ : Env} {H : List Blk} {n s : Nat} {big : Bool} (hn : n < 18446744073709551616) (hs : s ≤ 8) :
  Spc Tryz.prog 56 #[.int .u64 (n : Int), .int .i64 (s : Int), .bool big] Γ H (fun v Γ' H' => Γ = Γ' ∧ ∃ Hs, Ow 1 v s (bytesV (fix n s big)) Hs ∧ H' = Hs ++ H) := by
 refine Spc.body3 Tryz.func56 rfl Tryz.ntmps56 rfl ?_
 refine gz_ ?_
 (refine WL.make tab_ok rfl rfl rfl rfl rfl rfl rfl rfl (by omega) (by omega) (by omega) rfl ?_; intro bm)
 refine gz_ ?_
 rw [show ((s : Nat) : Int).toNat = s from rfl]
 refine WC.loopE (fun m R' Γ' H' => ∃ i nn, R' = [(0, .int .u64 ((nn : Nat) : Int)), (1, .int .i64 (s : Int)), (2, .bool big), (7, .slice (some ⟨bm, 0, none⟩) s s), (8, .int .i64 ((i : Nat) : Int))] ∧ Γ = Γ' ∧
   H' = (bm, cel (if big then reps (s - i) [.int .u8 0] ++ bytesV (fixL n i).reverse else bytesV (fixL n i) ++ reps (s - i) [.int .u8 0]) 5) :: H ∧ m = s - i ∧ i ≤ s ∧ nn = n / 256 ^ i ∧ nn < 18446744073709551616)
  ⟨0, n, rfl, rfl, rfl, rfl, Nat.zero_le _, by simp, hn⟩ sr_ (by cases big <;> simp [fixL, bytesV]) ?_
 rintro m R' Γ' H' ⟨i, nn, rfl, rfl, rfl, rfl, hi, hnn, hnb⟩
 rcases Nat.lt_or_ge i s with hlt | hge
 case inr =>
  have ei : i = s := by omega
  subst ei
  refine gz_ ?_
  refine WC.condF rfl (decide_eq_false (by omega)) ?_
  refine gz_ ?_
  have e : (if big then reps (i - i) [.int .u8 0] ++ bytesV (fixL n i).reverse else bytesV (fixL n i) ++ reps (i - i) [.int .u8 0]) = bytesV (fix n i big) := by
   rw [Nat.sub_self]; cases big <;> simp [fix, reps]
  rw [e]
  refine end_1 rfl rfl (Env.le.rfl' _) ⟨rfl, [(bm, cel (bytesV (fix n i big)) 5)], Ow.lit (by simp [fix_length]), rfl⟩
 case inl =>
  have hwi : IntKind.i64.wrap ((i : Int) + 1) = (i : Int) + 1 := w_i64 (by omega) (by omega)
  have hb8 : IntKind.u8.wrap (nn : Int) = ((UInt8.ofNat (nn % 256)).toNat : Int) := by
   rw [u8_of (by omega)]; simp only [IntKind.wrap, IntKind.bits, IntKind.signed]; simp
  have hfs : fixL n (i + 1) = fixL n i ++ [UInt8.ofNat (nn % 256)] := by rw [fixL_succ, hnn]
  have hdv : nn / 256 = n / 256 ^ (i + 1) := by rw [hnn, Nat.div_div_eq_div_mul, Nat.pow_succ]
  have hshr : ((nn : Int).fdiv (2 ^ min (Int.toNat 8) IntKind.u64.bits)) = ((nn / 256 : Nat) : Int) := by
   rw [show ((2 : Int) ^ min (Int.toNat 8) IntKind.u64.bits) = ((256 : Nat) : Int) from by decide, Int.fdiv_eq_ediv_of_nonneg _ (by omega)]; rfl
  have hrp : reps (s - i) [Value.int .u8 0] = reps (s - (i + 1)) [.int .u8 0] ++ [.int .u8 0] := by
   rw [← reps_succ, show s - (i + 1) + 1 = s - i by omega]
  have hrp2 : reps (s - i) [Value.int .u8 0] = .int .u8 0 :: reps (s - (i + 1)) [.int .u8 0] := by
   rw [show s - i = (s - (i + 1)) + 1 by omega]; rfl
  refine gz_ ?_
  refine WC.condT rfl tr_ ?_
  refine gz_ ?_
  cases big with
  | true =>
   simp only [if_true]
   refine gz_ ?_
   rw [show IntKind.i64.wrap (IntKind.i64.wrap ((s : Int) - 1) - (i : Int)) = ((s - 1 - i : Nat) : Int) from by rw [w_i64 (x := (s : Int) - 1) (by omega) (by omega), w_i64 (by omega) (by omega)]; omega, hrp, List.append_assoc]
   refine gz_ ?_
   have hrl : (reps (s - (i + 1)) [Value.int .u8 0]).length = s - (i + 1) := by rw [reps_length]; simp
   refine WL.stPre (k := 0) tab_ok rfl rfl rfl pk_ spl_ (by omega) rfl rfl ?_
   rw [hb8]
   refine gz_ ?_
   rw [hshr]
   refine WE.again ⟨i + 1, nn / 256, rfl, rfl, rfl, rfl, hlt, hdv, by omega⟩ (by omega) ⟨rfl, rfl, rfl, rfl, congrArg (fun z => some (Value.int .i64 z)) hwi, trivial⟩ ?_
   rw [hfs, List.reverse_append]
   exact sm_
  | false =>
   simp only [Bool.false_eq_true, if_false]
   rw [hrp2]
   refine gz_ ?_
   have hrl : (bytesV (fixL n i)).length = i := by simp [fixL_length]
   refine WL.stPre (k := 0) tab_ok rfl rfl rfl pk_ spl_ (by omega) rfl rfl ?_
   rw [hb8]
   refine gz_ ?_
   rw [hshr]
   refine WE.again ⟨i + 1, nn / 256, rfl, rfl, rfl, rfl, hlt, hdv, by omega⟩ (by omega) ⟨rfl, rfl, rfl, rfl, congrArg (fun z => some (Value.int .i64 z)) hwi, trivial⟩ ?_
   rw [hfs, bytesV_append, List.append_assoc]
   exact sm_
theorem offset_ok {Γ : Env} {H : List Blk} {n : Nat} {wide big : Bool} (hn : n < 9223372036854775808) :
  Spc Tryz.prog 77 #[.int .i64 (n : Int), .bool wide, .bool big] Γ H (fun v Γ' H' => Γ = Γ' ∧ ∃ Hs, Ow 1 v (offSz wide) (bytesV (fix n (offSz wide) big)) Hs ∧ H' = Hs ++ H) := by
 refine Spc.body3 Tryz.func77 rfl Tryz.ntmps77 rfl ?_
 have hw : IntKind.u64.wrap (n : Int) = (n : Int) := w_u64 (by omega) (by omega)
 cases wide with
 | true =>
  refine gz_ ?_
  rw [hw]
  refine WL.call rfl Tryz.call56 rfl rfl (by exact (fixed_ok (n := n) (s := 8) (big := big) (by omega) (by decide))) ?_
  rintro v _ _ - ⟨rfl, Hs, how, rfl⟩
  refine gz_ ?_
  exact end_1 rfl rfl (Env.le.rfl' _) ⟨rfl, Hs, how, rfl⟩
 | false =>
  refine gz_ ?_
  rw [hw]
  refine WL.call rfl Tryz.call56 rfl rfl (by exact (fixed_ok (n := n) (s := 4) (big := big) (by omega) (by decide))) ?_
  rintro v _ _ - ⟨rfl, Hs, how, rfl⟩
  refine gz_ ?_
  exact end_1 rfl rfl (Env.le.rfl' _) ⟨rfl, Hs, how, rfl⟩
theorem one_bytes {l : List UInt8} : ∀ x ∈ bytesV l, x.oneCell' = true := one_bytesV l
theorem lengthy_ok {Γ : Env} {H Hb F : List Blk} {vb : Value} {l : List UInt8} {wide big : Bool} (how : Ow 1 vb l.length (bytesV l) Hb) (hT : Tk H Hb F) (hl : l.length < 2147483648) :
  Spc Tryz.prog 51 #[vb, .bool wide, .bool big] Γ H (fun v Γ' H' => Γ = Γ' ∧ ∃ Hs, Ow 1 v (lenB wide l.length big ++ l).length (bytesV (lenB wide l.length big ++ l)) Hs ∧ H' = Hs ++ H) := by
 obtain ⟨ab, cb, rfl⟩ := Ow.shape how
 refine Spc.body3 Tryz.func51 rfl Tryz.ntmps51 rfl ?_
 refine gz_ ?_
 refine WL.call rfl Tryz.call77 rfl rfl (by exact (offset_ok (n := l.length) (wide := wide) (big := big) (by omega))) ?_
 rintro v _ _ - ⟨rfl, Hs, ho, rfl⟩
 refine gz_ ?_
 cases wide with
 | true =>
  refine gz_ ?_
  (refine WL.lit tab_ok rfl rfl rfl rfl rfl rfl rfl spi_ rfl ?_; intro bl)
  refine gz_ ?_
  refine WL.append tab_ok rfl rfl rfl rfl rfl rfl rfl rfl (Ow.lit (s := 1) (b := bl) (k := 4) (l := bytesV [255, 255, 255, 255]) (T := 5) rfl) (Tk.here (Hs := [(bl, _)])) (ho.src tab_ok rfl tk_ one_bytes) (by decide) (by decide) (fun v2 Hs2 how2 => ?_)
  refine gz_ ?_
  refine WL.append tab_ok rfl rfl rfl rfl rfl rfl rfl rfl how2 Tk.here (how.src tab_ok rfl (Tk.over (Tk.over hT)) one_bytes) (by simp [offSz]; omega) (by simp [offSz]; omega) (fun v3 Hs3 how3 => ?_)
  refine gz_ ?_
  refine WE.lose (Hs := Hs) (Tk.over Tk.here) ?_
  rw [← bytesV_append, ← bytesV_append] at how3
  refine end_1 rfl rfl (Env.le.rfl' _) ⟨rfl, Hs3, ?_, rfl⟩
  have e : (lenB true l.length big ++ l).length = 4 + offSz true + l.length := by rw [List.length_append, lenB_length]; rfl
  rw [e]; exact how3
 | false =>
  refine gz_ ?_
  refine WL.append tab_ok rfl rfl rfl rfl rfl rfl rfl rfl ho Tk.here (how.src tab_ok rfl (Tk.over hT) one_bytes) (by simp [offSz]; omega) (by simp [offSz]; omega) (fun v3 Hs3 how3 => ?_)
  refine gz_ ?_
  rw [← bytesV_append] at how3
  refine end_1 rfl rfl (Env.le.rfl' _) ⟨rfl, Hs3, ?_, rfl⟩
  have e : (lenB false l.length big ++ l).length = offSz false + l.length := by rw [List.length_append, lenB_length]; rfl
  rw [e]; exact how3
theorem zeroed_ok {Γ : Env} {H : List Blk} {s : ByteArray} (hs : s.size < 2147483648) :
  Spc Tryz.prog 100 #[.string s] Γ H (fun v Γ' H' => Γ = Γ' ∧ ∃ Hs, Ow 1 v (s.data.toList ++ [0]).length (bytesV (s.data.toList ++ [0])) Hs ∧ H' = Hs ++ H) := by
 refine Spc.body1 Tryz.func100 rfl Tryz.ntmps100 rfl ?_
 refine gz_ ?_
 refine WL.s2b tab_ok rfl rfl rfl rfl rfl (fun v Hs how => ?_)
 (refine WL.lit tab_ok rfl rfl rfl rfl rfl rfl rfl spi_ rfl ?_; intro bl)
 refine WL.append tab_ok rfl rfl rfl rfl rfl rfl rfl rfl how tk_ ((Ow.lit (s := 1) (b := bl) (k := 1) (l := bytesV [0]) (T := 5) rfl).src tab_ok rfl (Tk.here (Hs := [(bl, _)])) one_bytes) (by omega) (by omega) (fun v2 Hs2 how2 => ?_)
 refine gz_ ?_
 refine WE.drop (b := bl) pk_ ?_
 rw [← bytesV_append] at how2
 refine end_1 rfl rfl (Env.le.rfl' _) ⟨rfl, Hs2, ?_, rfl⟩
 have e : (s.data.toList ++ [0]).length = s.size + 1 := by rw [List.length_append, Array.length_toList]; rfl
 rw [e]
 exact how2
theorem u8_or128 (b : UInt8) : bits .or .u8 (b.toNat : Int) 128 = (((b ||| 128).toNat : Nat) : Int) := by
 have h : ∀ n : Fin 256, bits .or .u8 (n.val : Int) 128 = (((UInt8.ofNat n.val ||| 128).toNat : Nat) : Int) := by decide +kernel
 have := h ⟨b.toNat, b.toNat_lt⟩
 simpa using this
def carry : List UInt8 → List UInt8
 | [] => []
 | [x] => [x]
 | x :: y :: l => (x ||| 128) :: carry (y :: l)
theorem carry_length : ∀ l, (carry l).length = l.length
 | [] => rfl
 | [_] => rfl
 | _ :: y :: l => by simp [carry, carry_length (y :: l)]
theorem carry_at : ∀ (l : List UInt8) (i : Nat) (x : UInt8), i + 1 < l.length → l[i]? = some x → (carry l).take (i + 1) = (carry l).take i ++ [x ||| 128]
 | [], _, _, h, _ => by simp at h
 | [_], _, _, h, _ => by simp at h
 | x :: y :: l, 0, z, _, e => by injection e with e; subst e; rfl
 | x :: y :: l, i + 1, z, h, e => by
  have := carry_at (y :: l) i z (by simp at h ⊢; omega) (by simpa using e)
  simp only [carry, List.take_succ_cons, this, List.cons_append]
theorem carry_end : ∀ (l : List UInt8) (i : Nat), l.length ≤ i + 1 → (carry l).take i ++ l.drop i = carry l
 | [], i, _ => by simp [carry]
 | [x], 0, _ => rfl
 | [x], i + 1, _ => by simp [carry]
 | x :: y :: l, 0, h => by simp at h
 | x :: y :: l, i + 1, h => by
  have := carry_end (y :: l) i (by simp at h ⊢; omega)
  simp only [carry, List.take_succ_cons, List.drop_succ_cons, List.cons_append, this]
theorem carried_ok {Γ : Env} {H Hs F : List Blk} {v : Value} {l : List UInt8} (how : Ow 1 v l.length (bytesV l) Hs) (hT : Tk H Hs F) (hl : l.length < 2147483648) (h0 : 0 < l.length) :
  Spc Tryz.prog 80 #[v] Γ H (fun w Γ' H' => Γ = Γ' ∧ w = v ∧ ∃ Hs2, Ow 1 v l.length (bytesV (carry l)) Hs2 ∧ H' = Hs2 ++ F) := by
 generalize hn : l.length = n at how
 generalize hc : bytesV l = cs at how
 refine Spc.perm ?_ hT.perm
 cases how with
 | nil => omega
 | @row b cap _ _ sp T fz h1 h2 h3 hz =>
  subst hc
  refine Spc.body1 Tryz.func80 rfl Tryz.ntmps80 rfl ?_
  refine gz_ ?_
  have hlen : ∀ i, i ≤ n → (bytesV ((carry l).take i ++ l.drop i) ++ sp).length = (bytesV l ++ sp).length := fun i hi => by
   simp [carry_length]; omega
  refine WC.loopE (fun m R' Γ' H' => ∃ i, R' = [(0, .slice (some ⟨b, 0, none⟩) n cap), (3, .int .i64 ((i : Nat) : Int))] ∧ Γ = Γ' ∧
    H' = (b, celF (bytesV ((carry l).take i ++ l.drop i) ++ sp) T fz) :: F ∧ m = n - i ∧ i < n)
   ⟨0, rfl, rfl, by simp, rfl, by omega⟩ sr_ (fun _ h => h) ?_
  rintro m R' Γ' H' ⟨i, rfl, rfl, rfl, rfl, hi⟩
  have hwi : IntKind.i64.wrap ((i : Int) + 1) = (i : Int) + 1 := w_i64 (by omega) (by omega)
  refine gz_ ?_
  rw [hwi]
  rcases Nat.lt_or_ge (i + 1) n with hlt | hge
  case inr =>
   refine WC.condF rfl (decide_eq_false (by omega)) ?_
   refine gz_ ?_
   rw [carry_end l i (by omega)]
   refine end_1 rfl rfl (Env.le.rfl' _) ⟨rfl, rfl, [(b, celF (bytesV (carry l) ++ sp) T fz)], ?_, rfl⟩
   have e : (bytesV (carry l)).length = n * 1 := by simp [carry_length, hn]
   refine Ow.row h1 e (by simp [carry_length, hn] at h3 ⊢; omega) ?_
   have : (bytesV (carry l) ++ sp).length = (bytesV l ++ sp).length := by simp [carry_length]
   rw [this]; exact hz
  case inl =>
   obtain ⟨x, hx⟩ : ∃ x, l[i]? = some x := ⟨_, List.getElem?_eq_getElem (by omega)⟩
   have hdr : l.drop i = x :: l.drop (i + 1) := by
    rw [List.drop_eq_getElem_cons (by omega)]
    rw [List.getElem?_eq_getElem (by omega)] at hx; injection hx with hx; rw [hx]
   refine WC.condT rfl (decide_eq_true (by omega)) ?_
   refine gz_ ?_
   have hpl : (bytesV ((carry l).take i)).length = i := by simp [carry_length]; omega
   have hor : bits .or .u8 (x.toNat : Int) 128 = (((x ||| 128).toNat : Nat) : Int) := by
    have := u8_or128 x; exact this
   have hz2 := hlen i (by omega)
   rw [hdr, bytesV_append, List.append_assoc] at hz2
   rw [hdr, bytesV_append, List.append_assoc]
   refine WL.ldPre (k := 0) tab_ok rfl rfl rfl pk_ rfl (by omega) rfl ?_
   refine gz_ ?_
   rw [hor]
   refine WL.stN tab_ok rfl rfl rfl pk_ (by rw [hz2]; exact hz) (by rw [hz2, show (vcells (Value.int .u8 (((x ||| 128).toNat : Nat) : Int))).length = 1 from rfl]; simp; omega) (setAll_pre [u8v (x ||| 128)] (bytesV ((carry l).take i)) _ _ 0 (by omega)) rfl rfl ?_
   refine gz_ ?_
   refine WE.again ⟨i + 1, rfl, rfl, rfl, rfl, by omega⟩ (by omega) ⟨rfl, congrArg (fun z => some (Value.int .i64 z)) hwi, trivial⟩ ?_
   rw [carry_at l i x (by omega) hx, List.append_assoc, bytesV_append, List.append_assoc]
   exact (fun _ h => h)
def digs (n : Nat) : List UInt8 := if h : n < 128 then [UInt8.ofNat n] else UInt8.ofNat (n % 128) :: digs (n / 128)
termination_by n
decreasing_by omega
theorem digs_step (n : Nat) : digs n = UInt8.ofNat (n % 128) :: (if n / 128 = 0 then [] else digs (n / 128)) := by
 by_cases h : n < 128
 ·rw [digs, dif_pos h, if_pos (by omega), show n % 128 = n by omega]
 ·rw [digs, dif_neg h, if_neg (by omega)]
theorem or128 {k : Nat} (h : k < 128) : UInt8.ofNat k ||| 128 = UInt8.ofNat (k + 128) := by
 have h2 : ∀ n : Fin 128, UInt8.ofNat n.val ||| 128 = UInt8.ofNat (n.val + 128) := by decide +kernel
 exact h2 ⟨k, h⟩
theorem carry_digs (n : Nat) : carry (digs n) = ulebL n := by
 induction n using Nat.strongRecOn with
 | _ n ih =>
  by_cases h : n < 128
  ·rw [digs, dif_pos h, ulebL_small h]; rfl
  ·rw [digs, dif_neg h, ulebL_big h, ← ih (n / 128) (by omega), ← or128 (by omega)]
   have : digs (n / 128) ≠ [] := by rw [digs_step]; simp
   cases hd : digs (n / 128) with
   | nil => exact absurd hd this
   | cons y l => rfl
theorem unsigned_ok {Γ : Env} {H : List Blk} {n : Nat} (hn : n < 18446744073709551616) :
  Spc Tryz.prog 54 #[.int .u64 (n : Int), .int .i64 0] Γ H (fun v Γ' H' => Γ = Γ' ∧ ∃ Hs, Ow 1 v (ulebL n).length (bytesV (ulebL n)) Hs ∧ H' = Hs ++ H) := by
 have hd10 : (digs n).length ≤ 10 := by rw [← carry_length, carry_digs]; exact ulebL_len10 hn
 refine Spc.body2 Tryz.func54 rfl Tryz.ntmps54 rfl ?_
 have hrem : ∀ m : Nat, IntKind.u8.wrap ((m : Int).tmod 128) = ((UInt8.ofNat (m % 128)).toNat : Int) := fun m => by
  rw [u8_of (by omega), Int.tmod_eq_emod_of_nonneg (by omega)]
  rw [w_u8 (by omega) (by omega)]; rfl
 have hquo : ∀ m : Nat, m < 18446744073709551616 → IntKind.u64.wrap ((m : Int).tdiv 128) = ((m / 128 : Nat) : Int) := fun m hm => by
  rw [Int.tdiv_eq_ediv_of_nonneg (by omega), w_u64 (by omega) (by omega)]; rfl
 refine gz_ ?_
 rw [hrem]
 (refine WL.lit tab_ok rfl rfl rfl rfl rfl rfl rfl spi_ rfl ?_; intro b0)
 refine gz_ ?_
 rw [hquo n hn]
 refine WC.loopE (fun m R' Γ' H' => ∃ nn v out Hs, R' = [(0, .int .u64 ((nn : Nat) : Int)), (1, .int .i64 0), (5, v)] ∧ Γ = Γ' ∧ H' = Hs ++ H ∧ nn = m ∧ nn < 18446744073709551616 ∧ Ow 1 v (out : List UInt8).length (bytesV out) Hs ∧ 0 < out.length ∧ digs n = out ++ (if nn = 0 then [] else digs nn))
  ⟨n / 128, _, [UInt8.ofNat (n % 128)], [(b0, _)], rfl, rfl, rfl, rfl, by omega, Ow.lit (s := 1) (k := 1) (l := bytesV [UInt8.ofNat (n % 128)]) (T := 5) rfl, by simp, by rw [digs_step]; rfl⟩ sr_ sm_ ?_
 rintro m R' Γ' H' ⟨nn, v, out, Hs, rfl, rfl, rfl, hm, hnn, how, ho0, hdg⟩
 subst m
 have hol : out.length ≤ 10 := by have := congrArg List.length hdg; rw [List.length_append] at this; omega
 rcases Nat.eq_zero_or_pos nn with h0 | hpos
 case inl =>
  subst h0
  refine gz_ ?_
  rw [if_pos rfl, List.append_nil] at hdg
  refine WC.loop2 ?_
  refine gz_ ?_
  refine WL.call rfl Tryz.call80 rfl rfl (by exact (carried_ok how Tk.here (by omega) ho0)) ?_
  rintro _ _ _ - ⟨rfl, rfl, Hs2, how2, rfl⟩
  refine gz_ ?_
  have e : (ulebL n).length = out.length := by rw [← carry_digs, carry_length, hdg]
  refine end_1 rfl rfl (Env.le.rfl' _) ⟨rfl, Hs2, ?_, rfl⟩
  rw [e, ← carry_digs, hdg]
  exact how2
 case inr =>
  rw [if_neg (by omega), digs_step nn] at hdg
  refine gz_ ?_
  refine WC.condT rfl (decide_eq_true (by omega)) ?_
  refine gz_ ?_
  rw [hrem]
  (refine WL.lit tab_ok rfl rfl rfl rfl rfl rfl rfl spi_ rfl ?_; intro bl)
  refine WL.append tab_ok rfl rfl rfl rfl rfl rfl rfl rfl how tk_ ((Ow.lit (s := 1) (b := bl) (k := 1) (l := bytesV [UInt8.ofNat (nn % 128)]) (T := 5) rfl).src tab_ok rfl (Tk.here (Hs := [(bl, _)])) one_bytes) (by omega) (by omega) (fun v2 Hs2 how2 => ?_)
  refine gz_ ?_
  rw [hquo nn hnn]
  rw [← bytesV_append] at how2
  exact WE.again ⟨nn / 128, v2, out ++ [UInt8.ofNat (nn % 128)], Hs2, rfl, rfl, rfl, rfl, by omega, by rw [List.length_append]; exact how2, by simp, by rw [hdg, List.append_assoc]; rfl⟩ (by omega) sr_ sn_
theorem ow_row {s : Nat} {v : Value} {n : Nat} {l : List Value} {Hs : List Blk} (h : Ow s v n l Hs) (h0 : 0 < n) : ∃ b cap sp T fz, v = .slice (some ⟨b, 0, none⟩) n cap ∧ Hs = [(b, celF (l ++ sp) T fz)] ∧ n ≤ cap := by
 cases h with
 | nil => omega
 | row h1 _ _ _ => exact ⟨_, _, _, _, _, rfl, rfl, h1⟩
def lastG (z : Int) : Prop := (z / 128 = 0 ∧ z % 128 < 64) ∨ (z / 128 = -1 ∧ 64 ≤ z % 128)
instance (z : Int) : Decidable (lastG z) := by unfold lastG; infer_instance
abbrev grp (z : Int) : UInt8 := UInt8.ofNat (z % 128).toNat
def sdigs (z : Int) : List UInt8 := if h : lastG z then [grp z] else grp z :: sdigs (z / 128)
termination_by z.natAbs
decreasing_by unfold lastG at h; omega
theorem sdigs_step (z : Int) : sdigs z = grp z :: (if lastG z then [] else sdigs (z / 128)) := by
 by_cases h : lastG z
 ·rw [sdigs, dif_pos h, if_pos h]
 ·rw [sdigs, dif_neg h, if_neg h]
theorem carry_sdigs (z : Int) : carry (sdigs z) = slebL z := by
 induction hm : z.natAbs using Nat.strongRecOn generalizing z with
 | _ m ih =>
  by_cases h : lastG z
  ·rw [sdigs, dif_pos h, slebL_last h]; rfl
  ·rw [sdigs, dif_neg h, slebL_more h, ← ih (z / 128).natAbs (by unfold lastG at h; omega) (z / 128) rfl, ← or128 (by omega)]
   have : sdigs (z / 128) ≠ [] := by rw [sdigs_step]; simp
   cases hd : sdigs (z / 128) with
   | nil => exact absurd hd this
   | cons y l => rfl
theorem signed_ok {Γ : Env} {H : List Blk} {z : Int} (h0 : -9223372036854775808 ≤ z) (h1 : z < 9223372036854775808) :
  Spc Tryz.prog 78 #[.int .i64 z, .int .i64 0] Γ H (fun v Γ' H' => Γ = Γ' ∧ ∃ Hs, Ow 1 v (slebL z).length (bytesV (slebL z)) Hs ∧ H' = Hs ++ H) := by
 have hd10 : (sdigs z).length ≤ 10 := by rw [← carry_length, carry_sdigs]; exact slebL_len10 h0 h1
 have hand : ∀ m : Int, IntKind.u8.wrap (bits .and .i64 m 127) = ((grp m).toNat : Int) := fun m => by
  rw [i64_and127, u8_of (by omega), w_u8 (by omega) (by omega)]; omega
 have hshr : ∀ m : Int, m.fdiv (2 ^ min (Int.toNat 7) IntKind.i64.bits) = m / 128 := fun m => by
  rw [show ((2 : Int) ^ min (Int.toNat 7) IntKind.i64.bits) = 128 from by decide, Int.fdiv_eq_ediv_of_nonneg _ (by omega)]
 have hgn : ∀ m : Int, ((grp m).toNat : Int) = m % 128 := fun m => by rw [u8_of (by omega)]; omega
 refine Spc.body2 Tryz.func78 rfl Tryz.ntmps78 rfl ?_
 refine gz_ ?_
 rw [hand]
 (refine WL.lit tab_ok rfl rfl rfl rfl rfl rfl rfl spi_ rfl ?_; intro b0)
 refine gz_ ?_
 rw [hshr]
 refine WC.loopE (fun m R' Γ' H' => ∃ zz v out Hs, R' = [(0, .int .i64 (zz / 128)), (1, .int .i64 0), (5, v), (6, .int .u8 ((grp zz).toNat : Int))] ∧ Γ = Γ' ∧ H' = Hs ++ H ∧ m = zz.natAbs ∧ -9223372036854775808 ≤ zz ∧ zz < 9223372036854775808 ∧ Ow 1 v (out : List UInt8).length (bytesV out) Hs ∧ 0 < out.length ∧ sdigs z = out ++ (if lastG zz then [] else sdigs (zz / 128)))
  ⟨z, _, [grp z], [(b0, _)], rfl, rfl, rfl, rfl, h0, h1, Ow.lit (s := 1) (k := 1) (l := bytesV [grp z]) (T := 5) rfl, by simp, by rw [sdigs_step]; rfl⟩ sr_ sm_ ?_
 rintro m R' Γ' H' ⟨zz, v, out, Hs, rfl, rfl, rfl, rfl, hz0, hz1, how, ho0, hdg⟩
 have hol : out.length ≤ 10 := by have := congrArg List.length hdg; rw [List.length_append] at this; omega
 have hg := hgn zz
 refine WC.seq ?_
 refine WC.cutM (fun R' Γ' H' => R' = [(0, .int .i64 (zz / 128)), (1, .int .i64 0), (5, v)] ∧ Γ = Γ' ∧ H' = Hs ++ H ∧ ¬ lastG zz) ?_ ?_
 ·refine gz_ ?_
  by_cases hA : zz / 128 = 0
  ·rw [hA]
   refine gz_ ?_
   rw [hg]
   by_cases hq : 64 ≤ zz % 128
   ·rw [show decide ((64 : Int) ≤ zz % 128) = true from decide_eq_true hq]
    refine gz_ ?_
    exact WE.mid ⟨rfl, rfl, rfl, by unfold lastG; omega⟩ sr_ (fun _ h => h)
   ·have hlast : lastG zz := .inl ⟨hA, by omega⟩
    rw [show decide ((64 : Int) ≤ zz % 128) = false from decide_eq_false hq]
    refine gz_ ?_
    refine WC.loop2 ?_
    refine gz_ ?_
    refine WL.call rfl Tryz.call80 rfl rfl (by exact (carried_ok how Tk.here (by omega) ho0)) ?_
    rintro _ _ _ - ⟨rfl, rfl, Hs2, how2, rfl⟩
    refine gz_ ?_
    rw [if_pos hlast, List.append_nil] at hdg
    have e : (slebL z).length = out.length := by rw [← carry_sdigs, carry_length, hdg]
    refine end_1 rfl rfl (Env.le.rfl' _) ⟨rfl, Hs2, ?_, rfl⟩
    rw [e, ← carry_sdigs, hdg]
    exact how2
  ·rw [show (zz / 128 != 0) = true from bne_iff_ne.2 hA]
   refine gz_ ?_
   by_cases hB : zz / 128 = -1
   ·rw [hB]
    refine gz_ ?_
    rw [hg]
    by_cases hq : 64 ≤ zz % 128
    ·have hlast : lastG zz := .inr ⟨hB, hq⟩
     rw [show decide ((64 : Int) ≤ zz % 128) = true from decide_eq_true hq]
     refine gz_ ?_
     refine WC.loop2 ?_
     refine gz_ ?_
     refine WL.call rfl Tryz.call80 rfl rfl (by exact (carried_ok how Tk.here (by omega) ho0)) ?_
     rintro _ _ _ - ⟨rfl, rfl, Hs2, how2, rfl⟩
     refine gz_ ?_
     rw [if_pos hlast, List.append_nil] at hdg
     have e : (slebL z).length = out.length := by rw [← carry_sdigs, carry_length, hdg]
     refine end_1 rfl rfl (Env.le.rfl' _) ⟨rfl, Hs2, ?_, rfl⟩
     rw [e, ← carry_sdigs, hdg]
     exact how2
    ·rw [show decide ((64 : Int) ≤ zz % 128) = false from decide_eq_false hq]
     refine gz_ ?_
     exact WE.mid ⟨rfl, rfl, rfl, by unfold lastG; omega⟩ sr_ (fun _ h => h)
   ·rw [show (zz / 128 != -1) = true from bne_iff_ne.2 hB]
    refine gz_ ?_
    exact WE.mid ⟨rfl, rfl, rfl, by unfold lastG; omega⟩ sr_ (fun _ h => h)
 rintro R' Γ' H' ⟨rfl, rfl, rfl, hnl⟩
 rw [if_neg hnl, sdigs_step (zz / 128)] at hdg
 refine gz_ ?_
 rw [hand]
 (refine WL.lit tab_ok rfl rfl rfl rfl rfl rfl rfl spi_ rfl ?_; intro bl)
 refine WL.append tab_ok rfl rfl rfl rfl rfl rfl rfl rfl how tk_ ((Ow.lit (s := 1) (b := bl) (k := 1) (l := bytesV [grp (zz / 128)]) (T := 5) rfl).src tab_ok rfl (Tk.here (Hs := [(bl, _)])) one_bytes) (by omega) (by omega) (fun v2 Hs2 how2 => ?_)
 refine gz_ ?_
 rw [hshr]
 obtain ⟨b2, cap2, sp2, T2, fz2, rfl, rfl, hcap2⟩ := ow_row how2 (by omega)
 have hwl : IntKind.i64.wrap (((out.length + 1 : Nat) : Int) - 1) = ((out.length : Nat) : Int) := by rw [w_i64 (by omega) (by omega)]; omega
 refine gz_ ?_
 rw [hwl]
 refine WL.ldR (v := u8v (grp (zz / 128))) tab_ok rfl rfl rfl (.inr ⟨_, _, _, _, Pick.here, by
  have e : 0 + (((out.length : Nat) : Int)).toNat * 1 = out.length := by omega
  rw [e, List.append_assoc, List.getElem?_toArray, List.getElem?_append_right (by simp)]
  simp⟩) rfl ?_
 refine gz_ ?_
 rw [← bytesV_append] at how2 ⊢
 exact WE.again ⟨zz / 128, _, out ++ [grp (zz / 128)], _, rfl, rfl, rfl, rfl, by omega, by omega, by rw [List.length_append]; exact how2, by simp, by rw [hdg, List.append_assoc]; rfl⟩ (by unfold lastG at hnl; omega) sr_ sm_
end Go.Proofs.YtbgkbgoonjkghaaGreatDoor
namespace Go.Sl
open Go
theorem WE.re {Q : Post} {e : Exit} {n : Nat} {D : List Deferred} {R : Regs} {Γ : Env} {H H2 : List Blk} (hH : ∀ w, St Γ H w → St Γ H2 w) (k : WE Q e n D R Γ H2) : WE Q e n D R Γ H := ⟨fun a w hs => k.go a w (hs.world (hH w hs.st))⟩
end Go.Sl
namespace Go.Proofs.YtbgkbgoonjkghaaGreatDoor
open Go Go.Sl
set_option maxRecDepth 10000
set_option maxHeartbeats 40000000
def blkE (f : Int) (b : List UInt8) (big : Bool) : List UInt8 :=
 if f = 10 then fix b.length 1 big ++ b else if f = 3 then fix b.length 2 big ++ b else if f = 4 then fix b.length 4 big ++ b else ulebL b.length ++ b
theorem blockText_ok {Γ : Env} {H : List Blk} {a : Att} {c : List Value} {big : Bool} (h : AttC Γ a c) (hb : a.b.length ≤ 4096) :
  Spc Tryz.prog 99 #[.agg c.toArray, .bool big] Γ H (fun v Γ' H' => Γ = Γ' ∧ ∃ Hs, Ow 1 v (blkE a.form a.b big).length (bytesV (blkE a.form a.b big)) Hs ∧ H' = Hs ++ H) := by
 obtain ⟨vb, rfl, hB, hn⟩ := h
 have hB2 := hB
 obtain ⟨ab, cb, rfl, -, -⟩ := hB
 have hw : IntKind.u64.wrap (a.b.length : Int) = (a.b.length : Int) := w_u64 (by omega) (by omega)
 have hul : (ulebL a.b.length).length ≤ 10 := ulebL_len10 (by omega)
 refine Spc.body2 Tryz.func99 rfl Tryz.ntmps99 rfl ?_
 refine WC.seq ?_
 refine WC.region ?_
 (refine WL.box rfl spi_ rfl ?_; intro bx)
 refine gz_ ?_
 rw [hw]
 by_cases k10 : a.form = 10
 ·refine WC.condT rfl (beq_iff_eq.2 k10) ?_
  refine gz_ ?_
  refine WC.draw 7 (.take 0 (.take 1 (.take 3 (.take 4 (.one 2 (.one 5 (.one 6 .done))))))) ((bx, _) :: []) mixed xsb_ (by decide +kernel) ?_
  refine dz_ ?_
  refine WL.call rfl Tryz.call56 rfl rfl (by exact (fixed_ok (n := a.b.length) (s := 1) (big := big) (by omega) (by decide))) ?_
  rintro v _ _ - ⟨rfl, Hs, how, rfl⟩
  refine dz_ ?_
  refine WL.append tab_ok rfl rfl rfl rfl rfl rfl rfl rfl how Tk.here (hB2.src tab_ok rfl) (by omega) (by omega) (fun v2 Hs2 how2 => ?_)
  refine dz_ ?_
  refine gz_ ?_
  refine WE.drop (b := bx) pk_ ?_
  rw [← bytesV_append] at how2
  have e : blkE a.form a.b big = fix a.b.length 1 big ++ a.b := by simp [blkE, k10]
  refine end_1 rfl rfl (Env.le.rfl' _) ⟨rfl, Hs2, ?_, rfl⟩
  rw [e, List.length_append, fix_length]
  exact how2
 refine WC.condF rfl (beq_eq_false_iff_ne.2 k10) ?_
 refine gz_ ?_
 by_cases k3 : a.form = 3
 ·refine WC.condT rfl (beq_iff_eq.2 k3) ?_
  refine gz_ ?_
  refine WC.draw 7 (.take 0 (.take 1 (.take 3 (.take 4 (.one 2 (.one 5 (.one 6 .done))))))) ((bx, _) :: []) mixed xsb_ (by decide +kernel) ?_
  refine dz_ ?_
  refine WL.call rfl Tryz.call56 rfl rfl (by exact (fixed_ok (n := a.b.length) (s := 2) (big := big) (by omega) (by decide))) ?_
  rintro v _ _ - ⟨rfl, Hs, how, rfl⟩
  refine dz_ ?_
  refine WL.append tab_ok rfl rfl rfl rfl rfl rfl rfl rfl how Tk.here (hB2.src tab_ok rfl) (by omega) (by omega) (fun v2 Hs2 how2 => ?_)
  refine dz_ ?_
  refine gz_ ?_
  refine WE.drop (b := bx) pk_ ?_
  rw [← bytesV_append] at how2
  have e : blkE a.form a.b big = fix a.b.length 2 big ++ a.b := by simp [blkE, k3]
  refine end_1 rfl rfl (Env.le.rfl' _) ⟨rfl, Hs2, ?_, rfl⟩
  rw [e, List.length_append, fix_length]
  exact how2
 refine WC.condF rfl (beq_eq_false_iff_ne.2 k3) ?_
 refine gz_ ?_
 by_cases k4 : a.form = 4
 ·refine WC.condT rfl (beq_iff_eq.2 k4) ?_
  refine gz_ ?_
  refine WC.draw 7 (.take 0 (.take 1 (.take 3 (.take 4 (.one 2 (.one 5 (.one 6 .done))))))) ((bx, _) :: []) mixed xsb_ (by decide +kernel) ?_
  refine dz_ ?_
  refine WL.call rfl Tryz.call56 rfl rfl (by exact (fixed_ok (n := a.b.length) (s := 4) (big := big) (by omega) (by decide))) ?_
  rintro v _ _ - ⟨rfl, Hs, how, rfl⟩
  refine dz_ ?_
  refine WL.append tab_ok rfl rfl rfl rfl rfl rfl rfl rfl how Tk.here (hB2.src tab_ok rfl) (by omega) (by omega) (fun v2 Hs2 how2 => ?_)
  refine dz_ ?_
  refine gz_ ?_
  refine WE.drop (b := bx) pk_ ?_
  rw [← bytesV_append] at how2
  have e : blkE a.form a.b big = fix a.b.length 4 big ++ a.b := by simp [blkE, k4]
  refine end_1 rfl rfl (Env.le.rfl' _) ⟨rfl, Hs2, ?_, rfl⟩
  rw [e, List.length_append, fix_length]
  exact how2
 refine WC.condF rfl (beq_eq_false_iff_ne.2 k4) ?_
 refine gz_ ?_
 refine WC.draw 6 (.take 0 (.take 2 (.take 3 (.one 1 (.one 4 (.one 5 .done)))))) ((bx, _) :: []) mixed xsb_ (by decide +kernel) ?_
 refine dz_ ?_
 refine WL.call rfl Tryz.call54 rfl rfl (by exact (unsigned_ok (n := a.b.length) (by omega))) ?_
 rintro v _ _ - ⟨rfl, Hs, how, rfl⟩
 refine dz_ ?_
 refine WL.append tab_ok rfl rfl rfl rfl rfl rfl rfl rfl how Tk.here (hB2.src tab_ok rfl) (by omega) (by omega) (fun v2 Hs2 how2 => ?_)
 refine dz_ ?_
 refine gz_ ?_
 refine WE.drop (b := bx) pk_ ?_
 rw [← bytesV_append] at how2
 have e : blkE a.form a.b big = ulebL a.b.length ++ a.b := by simp [blkE, k10, k3, k4]
 refine end_1 rfl rfl (Env.le.rfl' _) ⟨rfl, Hs2, ?_, rfl⟩
 rw [e, List.length_append]
 exact how2
theorem attE_blk {v : Int} {w : Bool} {z : Int} {big : Bool} {so lo : Nat} {a : Att} (hs : szOf v w z a.form = 0) (h : a.form = 3 ∨ a.form = 4 ∨ a.form = 9 ∨ a.form = 10 ∨ a.form = 24) : attE v w z big so lo a = blkE a.form a.b big := by
 unfold attE blkE
 rw [hs]
 rcases h with h | h | h | h | h <;> simp [h]
theorem attrText_ok {Γ : Env} {H F : List Blk} {vers size : Int} {w : Bool} {vn : Value} {a : Att} {c : List Value} {big : Bool} {pt : Nat} {vs vl : Value} {ss ll : List UInt8} {Ss Sl : List Blk}
  (hz : size = 4 ∨ size = 8) (h : AttC Γ a c) (hb : a.b.length ≤ 4096) (hsz : a.s.size ≤ 4096)
  (hp : H.Perm ((pt, cel [vs, vl] 106) :: (Ss ++ (Sl ++ F)))) (hvs : Ow 1 vs ss.length (bytesV ss) Ss) (hvl : Ow 1 vl ll.length (bytesV ll) Sl) (hss : ss.length < 2147483648) (hll : ll.length < 2147483648) :
  Spc Tryz.prog 79 #[.agg #[.int .i64 vers, .bool w, .int .i64 size, vn], .agg c.toArray, .bool big, .pointer (some ⟨pt, 0, none⟩)] Γ H (fun v Γ' H' => Γ = Γ' ∧ ∃ Hs vs2 vl2 Ss2 Sl2, Ow 1 v (attE vers w size big ss.length ll.length a).length (bytesV (attE vers w size big ss.length ll.length a)) Hs ∧
   Ow 1 vs2 (ss ++ attS a).length (bytesV (ss ++ attS a)) Ss2 ∧ Ow 1 vl2 (ll ++ attL a).length (bytesV (ll ++ attL a)) Sl2 ∧ H' = Hs ++ ((pt, cel [vs2, vl2] 106) :: (Ss2 ++ (Sl2 ++ F)))) := by
 have hA := h
 obtain ⟨vb, rfl, hB, hn⟩ := h
 obtain ⟨ab, cb, rfl, -, -⟩ := hB
 obtain ⟨aS, cS, rfl⟩ := Ow.shape hvs
 obtain ⟨aL, cL, rfl⟩ := Ow.shape hvl
 refine Spc.perm ?_ hp
 refine Spc.body4 Tryz.func79 rfl Tryz.ntmps79 rfl ?_
 refine WC.seq ?_
 refine WC.region ?_
 (refine WL.box rfl spi_ rfl ?_; intro bu)
 (refine WL.box rfl spi_ rfl ?_; intro ba)
 refine gz_ ?_
 refine WL.call rfl Tryz.call98 rfl rfl (by exact (sizeOf_ok vers size w vn a.form (by omega))) ?_
 rintro _ _ _ - ⟨rfl, rfl, rfl⟩
 refine gz_ ?_
 by_cases hS : 0 < szOf vers w size a.form
 ·have hsc := szOf_cases (v := vers) (f := a.form) (w := w) hz
  refine WC.condT rfl (decide_eq_true (by omega)) ?_
  refine gz_ ?_
  refine WL.call rfl Tryz.call56 rfl rfl (by exact (fixed_ok (n := a.n) (s := szOf vers w size a.form) (big := big) hn (by omega))) ?_
  rintro v _ _ - ⟨rfl, Hs, how, rfl⟩
  refine gz_ ?_
  have e : attE vers w size big ss.length ll.length a = fix a.n (szOf vers w size a.form) big := by unfold attE; rw [if_pos hS]
  have e14 : a.form ≠ 14 := fun h => by rw [h] at hS; simp [szOf] at hS
  have e31 : a.form ≠ 31 := fun h => by rw [h] at hS; simp [szOf] at hS
  have eS : attS a = [] := if_neg e14
  have eL : attL a = [] := if_neg e31
  refine WE.drop (b := ba) pk_ ?_
  refine WE.drop (b := bu) pk_ ?_
  rw [e, eS, eL, fix_length, List.append_nil, List.append_nil]
  exact end_1 rfl rfl (Env.le.rfl' _) ⟨rfl, Hs, _, _, Ss, Sl, how, hvs, hvl, rfl⟩
 have hS0 : szOf vers w size a.form = 0 := by omega
 refine WC.condF rfl (decide_eq_false (by omega)) ?_
 refine gz_ ?_
 by_cases k3 : a.form = 3
 ·rw [show (a.form == 3) = true from beq_iff_eq.2 k3]
  refine gz_ ?_
  refine WL.call rfl Tryz.call99 rfl rfl (by exact (blockText_ok (big := big) hA hb)) ?_
  rintro v _ _ - ⟨rfl, Hs, how, rfl⟩
  refine gz_ ?_
  have e := attE_blk (big := big) (so := ss.length) (lo := ll.length) hS0 (by omega)
  have eS : attS a = [] := if_neg (by omega)
  have eL : attL a = [] := if_neg (by omega)
  refine WE.drop (b := ba) pk_ ?_
  refine WE.drop (b := bu) pk_ ?_
  rw [e, eS, eL, List.append_nil, List.append_nil]
  exact end_1 rfl rfl (Env.le.rfl' _) ⟨rfl, Hs, _, _, Ss, Sl, how, hvs, hvl, rfl⟩
 refine WC.condF rfl (beq_eq_false_iff_ne.2 k3) ?_
 refine gz_ ?_
 by_cases k4 : a.form = 4
 ·rw [show (a.form == 4) = true from beq_iff_eq.2 k4]
  refine gz_ ?_
  refine WL.call rfl Tryz.call99 rfl rfl (by exact (blockText_ok (big := big) hA hb)) ?_
  rintro v _ _ - ⟨rfl, Hs, how, rfl⟩
  refine gz_ ?_
  have e := attE_blk (big := big) (so := ss.length) (lo := ll.length) hS0 (by omega)
  have eS : attS a = [] := if_neg (by omega)
  have eL : attL a = [] := if_neg (by omega)
  refine WE.drop (b := ba) pk_ ?_
  refine WE.drop (b := bu) pk_ ?_
  rw [e, eS, eL, List.append_nil, List.append_nil]
  exact end_1 rfl rfl (Env.le.rfl' _) ⟨rfl, Hs, _, _, Ss, Sl, how, hvs, hvl, rfl⟩
 refine WC.condF rfl (beq_eq_false_iff_ne.2 k4) ?_
 refine gz_ ?_
 by_cases k9 : a.form = 9
 ·rw [show (a.form == 9) = true from beq_iff_eq.2 k9]
  refine gz_ ?_
  refine WL.call rfl Tryz.call99 rfl rfl (by exact (blockText_ok (big := big) hA hb)) ?_
  rintro v _ _ - ⟨rfl, Hs, how, rfl⟩
  refine gz_ ?_
  have e := attE_blk (big := big) (so := ss.length) (lo := ll.length) hS0 (by omega)
  have eS : attS a = [] := if_neg (by omega)
  have eL : attL a = [] := if_neg (by omega)
  refine WE.drop (b := ba) pk_ ?_
  refine WE.drop (b := bu) pk_ ?_
  rw [e, eS, eL, List.append_nil, List.append_nil]
  exact end_1 rfl rfl (Env.le.rfl' _) ⟨rfl, Hs, _, _, Ss, Sl, how, hvs, hvl, rfl⟩
 refine WC.condF rfl (beq_eq_false_iff_ne.2 k9) ?_
 refine gz_ ?_
 by_cases k10 : a.form = 10
 ·rw [show (a.form == 10) = true from beq_iff_eq.2 k10]
  refine gz_ ?_
  refine WL.call rfl Tryz.call99 rfl rfl (by exact (blockText_ok (big := big) hA hb)) ?_
  rintro v _ _ - ⟨rfl, Hs, how, rfl⟩
  refine gz_ ?_
  have e := attE_blk (big := big) (so := ss.length) (lo := ll.length) hS0 (by omega)
  have eS : attS a = [] := if_neg (by omega)
  have eL : attL a = [] := if_neg (by omega)
  refine WE.drop (b := ba) pk_ ?_
  refine WE.drop (b := bu) pk_ ?_
  rw [e, eS, eL, List.append_nil, List.append_nil]
  exact end_1 rfl rfl (Env.le.rfl' _) ⟨rfl, Hs, _, _, Ss, Sl, how, hvs, hvl, rfl⟩
 refine WC.condF rfl (beq_eq_false_iff_ne.2 k10) ?_
 refine gz_ ?_
 by_cases k24 : a.form = 24
 ·rw [show (a.form == 24) = true from beq_iff_eq.2 k24]
  refine gz_ ?_
  refine WL.call rfl Tryz.call99 rfl rfl (by exact (blockText_ok (big := big) hA hb)) ?_
  rintro v _ _ - ⟨rfl, Hs, how, rfl⟩
  refine gz_ ?_
  have e := attE_blk (big := big) (so := ss.length) (lo := ll.length) hS0 (by omega)
  have eS : attS a = [] := if_neg (by omega)
  have eL : attL a = [] := if_neg (by omega)
  refine WE.drop (b := ba) pk_ ?_
  refine WE.drop (b := bu) pk_ ?_
  rw [e, eS, eL, List.append_nil, List.append_nil]
  exact end_1 rfl rfl (Env.le.rfl' _) ⟨rfl, Hs, _, _, Ss, Sl, how, hvs, hvl, rfl⟩
 refine WC.condF rfl (beq_eq_false_iff_ne.2 k24) ?_
 refine gz_ ?_
 by_cases k8 : a.form = 8
 ·rw [show (a.form == 8) = true from beq_iff_eq.2 k8]
  refine gz_ ?_
  refine WL.call rfl Tryz.call100 rfl rfl (by exact (zeroed_ok (s := a.s) (by omega))) ?_
  rintro v _ _ - ⟨rfl, Hs, how, rfl⟩
  refine gz_ ?_
  have e : attE vers w size big ss.length ll.length a = a.s.data.toList ++ [0] := by unfold attE; rw [hS0]; simp [k8]
  have eS : attS a = [] := if_neg (by omega)
  have eL : attL a = [] := if_neg (by omega)
  refine WE.drop (b := ba) pk_ ?_
  refine WE.drop (b := bu) pk_ ?_
  rw [e, eS, eL, List.append_nil, List.append_nil]
  exact end_1 rfl rfl (Env.le.rfl' _) ⟨rfl, Hs, _, _, Ss, Sl, how, hvs, hvl, rfl⟩
 refine WC.condF rfl (beq_eq_false_iff_ne.2 k8) ?_
 refine gz_ ?_
 by_cases k13 : a.form = 13
 ·rw [show (a.form == 13) = true from beq_iff_eq.2 k13]
  refine gz_ ?_
  refine WL.call rfl Tryz.call78 rfl rfl (by exact (signed_ok (z := i64w a.n) (i64w_bd a.n).1 (i64w_bd a.n).2)) ?_
  rintro v _ _ - ⟨rfl, Hs, how, rfl⟩
  refine gz_ ?_
  have e : attE vers w size big ss.length ll.length a = slebL (i64w a.n) := by unfold attE; rw [hS0]; simp [k13]
  have eS : attS a = [] := if_neg (by omega)
  have eL : attL a = [] := if_neg (by omega)
  refine WE.drop (b := ba) pk_ ?_
  refine WE.drop (b := bu) pk_ ?_
  rw [e, eS, eL, List.append_nil, List.append_nil]
  exact end_1 rfl rfl (Env.le.rfl' _) ⟨rfl, Hs, _, _, Ss, Sl, how, hvs, hvl, rfl⟩
 refine WC.condF rfl (beq_eq_false_iff_ne.2 k13) ?_
 refine gz_ ?_
 by_cases k15 : a.form = 15
 ·rw [show (a.form == 15) = true from beq_iff_eq.2 k15]
  refine gz_ ?_
  refine WL.call rfl Tryz.call54 rfl rfl (by exact (unsigned_ok (n := a.n) hn)) ?_
  rintro v _ _ - ⟨rfl, Hs, how, rfl⟩
  refine gz_ ?_
  have e : attE vers w size big ss.length ll.length a = ulebL a.n := by unfold attE; rw [hS0]; simp [k15]
  have eS : attS a = [] := if_neg (by omega)
  have eL : attL a = [] := if_neg (by omega)
  refine WE.drop (b := ba) pk_ ?_
  refine WE.drop (b := bu) pk_ ?_
  rw [e, eS, eL, List.append_nil, List.append_nil]
  exact end_1 rfl rfl (Env.le.rfl' _) ⟨rfl, Hs, _, _, Ss, Sl, how, hvs, hvl, rfl⟩
 refine WC.condF rfl (beq_eq_false_iff_ne.2 k15) ?_
 refine gz_ ?_
 by_cases k21 : a.form = 21
 ·rw [show (a.form == 21) = true from beq_iff_eq.2 k21]
  refine gz_ ?_
  refine WL.call rfl Tryz.call54 rfl rfl (by exact (unsigned_ok (n := a.n) hn)) ?_
  rintro v _ _ - ⟨rfl, Hs, how, rfl⟩
  refine gz_ ?_
  have e : attE vers w size big ss.length ll.length a = ulebL a.n := by unfold attE; rw [hS0]; simp [k21]
  have eS : attS a = [] := if_neg (by omega)
  have eL : attL a = [] := if_neg (by omega)
  refine WE.drop (b := ba) pk_ ?_
  refine WE.drop (b := bu) pk_ ?_
  rw [e, eS, eL, List.append_nil, List.append_nil]
  exact end_1 rfl rfl (Env.le.rfl' _) ⟨rfl, Hs, _, _, Ss, Sl, how, hvs, hvl, rfl⟩
 refine WC.condF rfl (beq_eq_false_iff_ne.2 k21) ?_
 refine gz_ ?_
 by_cases k14 : a.form = 14
 ·rw [show (a.form == 14) = true from beq_iff_eq.2 k14]
  refine gz_ ?_
  refine WC.draw 11 (.take 0 (.take 1 (.take 2 (.take 3 (.take 4 (.take 5 (.take 6 (.one 7 (.one 8 (.one 9 (.take 10 (.one 11 .done)))))))))))) ((pt, _) :: (ba, _) :: []) mixed xsb_ (by decide +kernel) ?_
  refine dz_ ?_
  refine WL.call rfl Tryz.call100 rfl rfl (by exact (zeroed_ok (s := a.s) (by omega))) ?_
  rintro v _ _ - ⟨rfl, Hz, hz0, rfl⟩
  refine dz_ ?_
  have hzl : (a.s.data.toList ++ [0]).length ≤ 4097 := by rw [List.length_append, Array.length_toList]; simp only [List.length_singleton]; have : a.s.data.size = a.s.size := rfl; omega
  refine WL.append tab_ok rfl rfl rfl rfl rfl rfl rfl rfl hvs tk_ (hz0.src tab_ok rfl tk_ one_bytes) (by omega) (by omega) (fun v2 S2 how2 => ?_)
  obtain ⟨a9, c9, rfl⟩ := Ow.shape how2
  refine dz_ ?_
  refine gz_ ?_
  refine WL.call rfl Tryz.call77 rfl rfl (by exact (offset_ok (n := ss.length) (wide := w) (big := big) (by omega))) ?_
  rintro vo _ _ - ⟨rfl, Ho, ho, rfl⟩
  refine gz_ ?_
  rw [← bytesV_append] at how2
  have e : attE vers w size big ss.length ll.length a = fix ss.length (offSz w) big := by unfold attE; rw [hS0]; simp [k14]
  have eS : attS a = a.s.data.toList ++ [0] := if_pos k14
  have eL : attL a = [] := if_neg (by omega)
  refine WE.re (H2 := Ho ++ ((pt, cel [.slice a9 (ss.length + (a.s.data.toList ++ [0]).length) c9, .slice aL ll.length cL] 106) :: (S2 ++ (Sl ++ F)))) sn_ ?_
  rw [e, eS, eL, List.append_nil, fix_length]
  have h9 : Ow 1 (Value.slice a9 (ss.length + (a.s.data.toList ++ [0]).length) c9) (ss ++ (a.s.data.toList ++ [0])).length (bytesV (ss ++ (a.s.data.toList ++ [0]))) S2 := by
   have e9 : (ss ++ (a.s.data.toList ++ [0])).length = ss.length + (a.s.data.toList ++ [0]).length := List.length_append
   rw [e9]; exact how2
  exact end_1 rfl rfl (Env.le.rfl' _) ⟨rfl, Ho, _, _, S2, Sl, ho, h9, hvl, rfl⟩
 refine WC.condF rfl (beq_eq_false_iff_ne.2 k14) ?_
 refine gz_ ?_
 by_cases k31 : a.form = 31
 ·rw [show (a.form == 31) = true from beq_iff_eq.2 k31]
  refine gz_ ?_
  refine WC.draw 11 (.take 0 (.take 1 (.take 2 (.take 3 (.take 4 (.take 5 (.take 6 (.one 7 (.one 8 (.one 9 (.take 10 (.one 11 .done)))))))))))) ((pt, _) :: (ba, _) :: []) mixed xsb_ (by decide +kernel) ?_
  refine dz_ ?_
  refine WL.call rfl Tryz.call100 rfl rfl (by exact (zeroed_ok (s := a.s) (by omega))) ?_
  rintro v _ _ - ⟨rfl, Hz, hz0, rfl⟩
  refine dz_ ?_
  have hzl : (a.s.data.toList ++ [0]).length ≤ 4097 := by rw [List.length_append, Array.length_toList]; simp only [List.length_singleton]; have : a.s.data.size = a.s.size := rfl; omega
  refine WL.append tab_ok rfl rfl rfl rfl rfl rfl rfl rfl hvl tk_ (hz0.src tab_ok rfl tk_ one_bytes) (by omega) (by omega) (fun v2 S2 how2 => ?_)
  obtain ⟨a9, c9, rfl⟩ := Ow.shape how2
  refine dz_ ?_
  refine gz_ ?_
  refine WL.call rfl Tryz.call77 rfl rfl (by exact (offset_ok (n := ll.length) (wide := w) (big := big) (by omega))) ?_
  rintro vo _ _ - ⟨rfl, Ho, ho, rfl⟩
  refine gz_ ?_
  rw [← bytesV_append] at how2
  have e : attE vers w size big ss.length ll.length a = fix ll.length (offSz w) big := by unfold attE; rw [hS0]; simp [k31]
  have eS : attS a = [] := if_neg k14
  have eL : attL a = a.s.data.toList ++ [0] := if_pos k31
  refine WE.re (H2 := Ho ++ ((pt, cel [.slice aS ss.length cS, .slice a9 (ll.length + (a.s.data.toList ++ [0]).length) c9] 106) :: (Ss ++ (S2 ++ F)))) sn_ ?_
  rw [e, eS, eL, List.append_nil, fix_length]
  have h9 : Ow 1 (Value.slice a9 (ll.length + (a.s.data.toList ++ [0]).length) c9) (ll ++ (a.s.data.toList ++ [0])).length (bytesV (ll ++ (a.s.data.toList ++ [0]))) S2 := by
   have e9 : (ll ++ (a.s.data.toList ++ [0])).length = ll.length + (a.s.data.toList ++ [0]).length := List.length_append
   rw [e9]; exact how2
  exact end_1 rfl rfl (Env.le.rfl' _) ⟨rfl, Ho, _, _, Ss, S2, ho, hvs, h9, rfl⟩
 refine WC.condF rfl (beq_eq_false_iff_ne.2 k31) ?_
 refine gz_ ?_
 have e : attE vers w size big ss.length ll.length a = [] := by unfold attE; rw [hS0]; simp [k3, k4, k9, k10, k24, k8, k13, k15, k21, k14, k31]
 have eS : attS a = [] := if_neg k14
 have eL : attL a = [] := if_neg k31
 refine WE.drop (b := ba) pk_ ?_
 refine WE.drop (b := bu) pk_ ?_
 rw [e, eS, eL, List.append_nil, List.append_nil]
 exact end_1 rfl rfl (Env.le.rfl' _) ⟨rfl, [], _, _, Ss, Sl, Ow.nil, hvs, hvl, rfl⟩
end Go.Proofs.YtbgkbgoonjkghaaGreatDoor
namespace Go.Sl
open Go
theorem Tk.one {x : Blk} {H : List Blk} : Tk (x :: H) [x] H := Tk.here (Hs := [x])
end Go.Sl
namespace Go.Proofs.YtbgkbgoonjkghaaGreatDoor
open Go Go.Sl
set_option maxRecDepth 10000
set_option maxHeartbeats 40000000
theorem code_ok {Γ : Env} {H : List Blk} {i : Nat} (hi : i < 65536) :
  Spc Tryz.prog 55 #[.int .i64 (i : Int)] Γ H (fun v Γ' H' => Γ = Γ' ∧ H = H' ∧ v = .int .u64 ((1 + 50 * i : Nat) : Int)) := by
 refine Spc.body1 Tryz.func55 rfl Tryz.ntmps55 rfl ?_
 refine gz_ ?_
 exact end_1 rfl rfl (Env.le.rfl' _) ⟨rfl, rfl, by
  rw [w_i64 (x := 50 * (i : Int)) (by omega) (by omega), w_i64 (by omega) (by omega), w_u64 (by omega) (by omega)]
  congr 1⟩
def hdrE (v size : Int) (w : Bool) (n : Nat) (big : Bool) : List UInt8 :=
 fix v.toNat 2 big ++ (if 4 < v then [1, UInt8.ofNat size.toNat] ++ fix n (offSz w) big else fix n (offSz w) big ++ [UInt8.ofNat size.toNat])
theorem header_ok {Γ : Env} {H : List Blk} {v size : Int} {w : Bool} {vn : Value} {n : Nat} {big : Bool} (hv : 2 ≤ v) (hv5 : v ≤ 5) (hz : size = 4 ∨ size = 8) (hn : n < 9223372036854775808) :
  Spc Tryz.prog 50 #[.agg #[.int .i64 v, .bool w, .int .i64 size, vn], .int .i64 (n : Int), .bool big] Γ H (fun r Γ' H' => Γ = Γ' ∧ ∃ Hs, Ow 1 r (hdrE v size w n big).length (bytesV (hdrE v size w n big)) Hs ∧ H' = Hs ++ H) := by
 have hw8 : IntKind.u8.wrap size = ((UInt8.ofNat size.toNat).toNat : Int) := by rw [u8_of (by omega), w_u8 (by omega) (by omega)]; omega
 have hwv : IntKind.u64.wrap v = ((v.toNat : Nat) : Int) := by rw [w_u64 (by omega) (by omega)]; omega
 have hof := osz_bd w
 have hoz : offSz w = osz w := rfl
 refine Spc.body3 Tryz.func50 rfl Tryz.ntmps50 rfl ?_
 refine WC.seq ?_
 refine WC.region ?_
 (refine WL.box rfl spi_ rfl ?_; intro bx)
 refine gz_ ?_
 rw [hwv]
 refine WL.call rfl Tryz.call56 rfl rfl (by exact (fixed_ok (n := v.toNat) (s := 2) (big := big) (by omega) (by decide))) ?_
 rintro r0 _ _ - ⟨rfl, H0, how, rfl⟩
 refine gz_ ?_
 by_cases h4 : 4 < v
 ·refine WC.condT rfl (decide_eq_true h4) ?_
  refine gz_ ?_
  refine WC.draw 13 (.take 0 (.take 1 (.take 2 (.take 3 (.take 6 (.take 7 (.take 8 (.take 9 (.one 4 (.one 5 (.one 10 (.one 11 (.one 12 .done))))))))))))) ((bx, _) :: []) mixed xsb_ (by decide +kernel) ?_
  refine dz_ ?_
  rw [hw8]
  (refine WL.lit tab_ok rfl rfl rfl rfl rfl rfl rfl spi_ rfl ?_; intro bl)
  refine dz_ ?_
  refine WL.append tab_ok rfl rfl rfl rfl rfl rfl rfl rfl how tk_ ((Ow.lit (s := 1) (b := bl) (k := 2) (l := bytesV [1, UInt8.ofNat size.toNat]) (T := 5) rfl).src tab_ok rfl (Tk.here (Hs := [(bl, _)])) one_bytes) (by decide) (by decide) (fun v2 Hs2 how2 => ?_)
  refine dz_ ?_
  refine WL.call rfl Tryz.call77 rfl rfl (by exact (offset_ok (n := n) (wide := w) (big := big) hn)) ?_
  rintro r3 _ _ - ⟨rfl, H3, how3, rfl⟩
  refine dz_ ?_
  refine WL.append tab_ok rfl rfl rfl rfl rfl rfl rfl rfl how2 tk_ (how3.src tab_ok rfl tk_ one_bytes) (by omega) (by omega) (fun v4 Hs4 how4 => ?_)
  refine dz_ ?_
  refine gz_ ?_
  refine WE.re (H2 := Hs4 ++ H) sn_ ?_
  rw [← bytesV_append, ← bytesV_append, List.append_assoc] at how4
  have e : hdrE v size w n big = fix v.toNat 2 big ++ ([1, UInt8.ofNat size.toNat] ++ fix n (offSz w) big) := by simp [hdrE, h4]
  have el : (hdrE v size w n big).length = 2 + 2 + offSz w := by rw [e]; simp [fix_length]; omega
  refine end_1 rfl rfl (Env.le.rfl' _) ⟨rfl, Hs4, ?_, rfl⟩
  rw [el, e]; exact how4
 ·refine WC.condF rfl (decide_eq_false h4) ?_
  refine gz_ ?_
  have hfin : ∀ v2 Hs2, Ow 1 v2 (2 + offSz w + 1) (bytesV (fix v.toNat 2 big) ++ bytesV (fix n (offSz w) big) ++ bytesV [UInt8.ofNat size.toNat]) Hs2 → Ow 1 v2 (hdrE v size w n big).length (bytesV (hdrE v size w n big)) Hs2 := fun v2 Hs2 h => by
   have e : hdrE v size w n big = fix v.toNat 2 big ++ (fix n (offSz w) big ++ [UInt8.ofNat size.toNat]) := by simp [hdrE, h4]
   have el : (hdrE v size w n big).length = 2 + offSz w + 1 := by rw [e]; simp [fix_length]; omega
   rw [el, e]
   rw [← bytesV_append, ← bytesV_append, List.append_assoc] at h; exact h
  refine WC.cutM (fun R' Γ' H' => ∃ r H4, R' = [(6, r)] ∧ Γ = Γ' ∧ H' = H4 ++ H ∧ Ow 1 r (hdrE v size w n big).length (bytesV (hdrE v size w n big)) H4) ?_ ?_
  ·refine WC.draw 13 (.take 0 (.take 1 (.take 2 (.take 3 (.take 4 (.take 7 (.take 8 (.take 9 (.two 5 10 (.two 6 10 (.one 10 (.one 11 (.one 12 .done))) (.one 6 (.one 11 (.one 12 .done)))) (.one 5 (.one 6 (.one 11 (.one 12 .done))))))))))))) ((bx, _) :: []) mixed xsb_ (by decide +kernel) ?_
   refine dz_ ?_
   refine WD.two rfl rfl ?_ ?_
   ·refine WL.call rfl Tryz.call77 rfl rfl (by exact (offset_ok (n := n) (wide := w) (big := big) hn)) ?_
    rintro r3 _ _ - ⟨rfl, H3, how3, rfl⟩
    refine dz_ ?_
    refine WD.two rfl rfl ?_ ?_
    ·refine WL.append tab_ok rfl rfl rfl rfl rfl rfl rfl rfl how tk_ (how3.src tab_ok rfl tk_ one_bytes) (by omega) (by omega) (fun v2 Hs2 how2 => ?_)
     refine dz_ ?_
     rw [hw8]
     (refine WL.lit tab_ok rfl rfl rfl rfl rfl rfl rfl spi_ rfl ?_; intro bl)
     refine dz_ ?_
     refine WL.append tab_ok rfl rfl rfl rfl rfl rfl rfl rfl how2 tk_ ((Ow.lit (s := 1) (b := bl) (k := 1) (l := bytesV [UInt8.ofNat size.toNat]) (T := 5) rfl).src tab_ok rfl t1_ one_bytes) (by omega) (by omega) (fun v4 Hs4 how4 => ?_)
     refine dz_ ?_
     exact WE.mid ⟨_, Hs4, rfl, rfl, rfl, hfin _ _ how4⟩ sr_ sn_
    ·refine dz_ ?_
     rw [hw8]
     (refine WL.lit tab_ok rfl rfl rfl rfl rfl rfl rfl spi_ rfl ?_; intro bl)
     refine dz_ ?_
     refine WL.append tab_ok rfl rfl rfl rfl rfl rfl rfl rfl how tk_ (how3.src tab_ok rfl tk_ one_bytes) (by omega) (by omega) (fun v2 Hs2 how2 => ?_)
     refine dz_ ?_
     refine WL.append tab_ok rfl rfl rfl rfl rfl rfl rfl rfl how2 tk_ ((Ow.lit (s := 1) (b := bl) (k := 1) (l := bytesV [UInt8.ofNat size.toNat]) (T := 5) rfl).src tab_ok rfl t1_ one_bytes) (by omega) (by omega) (fun v4 Hs4 how4 => ?_)
     refine dz_ ?_
     exact WE.mid ⟨_, Hs4, rfl, rfl, rfl, hfin _ _ how4⟩ sr_ sn_
   ·refine dz_ ?_
    rw [hw8]
    (refine WL.lit tab_ok rfl rfl rfl rfl rfl rfl rfl spi_ rfl ?_; intro bl)
    refine dz_ ?_
    refine WL.call rfl Tryz.call77 rfl rfl (by exact (offset_ok (n := n) (wide := w) (big := big) hn)) ?_
    rintro r3 _ _ - ⟨rfl, H3, how3, rfl⟩
    refine dz_ ?_
    refine WL.append tab_ok rfl rfl rfl rfl rfl rfl rfl rfl how tk_ (how3.src tab_ok rfl tk_ one_bytes) (by omega) (by omega) (fun v2 Hs2 how2 => ?_)
    refine dz_ ?_
    refine WL.append tab_ok rfl rfl rfl rfl rfl rfl rfl rfl how2 tk_ ((Ow.lit (s := 1) (b := bl) (k := 1) (l := bytesV [UInt8.ofNat size.toNat]) (T := 5) rfl).src tab_ok rfl t1_ one_bytes) (by omega) (by omega) (fun v4 Hs4 how4 => ?_)
    refine dz_ ?_
    exact WE.mid ⟨_, Hs4, rfl, rfl, rfl, hfin _ _ how4⟩ sr_ sn_
  ·rintro R' _ H' ⟨r, H4, rfl, rfl, rfl, how4⟩
   refine gz_ ?_
   exact end_1 rfl rfl (Env.le.rfl' _) ⟨rfl, H4, how4, rfl⟩
theorem seekAt_ok {Γ : Env} {H F F1 : List Blk} {pr pd pu k off : Nat} {un : Int} {big lu lc : Bool} {sr lin : List UInt8} {us : List PU} {u : PU} {cs : List Value} {x0 x1 x2 x3 x4 x5 x6 err ls : Value}
  (hG : Glob Γ) (hp : Pick H pr (cel (x0 :: x1 :: x2 :: x3 :: x4 :: x5 :: x6 :: rdp pd err un lu lc ls (.pointer none)) 258) F1) (hq : Pick F1 pu (cel cs 279) F) (hcs : UQs Γ big 0 us cs)
  (hS : Secs Γ F pd (uctx big sr lin (pusB big (us.take k)).length u)) (h17 : Rd Γ F pd 17 (.slice (some ⟨pu, 0, none⟩) us.length us.length)) (hn : us.length ≤ 2147483647) (hall : (pusB big us).length < 2147483648)
  (hu : us[k]? = some u) (h1 : offU big us k ≤ off) (h2 : off < offU big us k + u.body.length) (hdist : u.abs.Pairwise (fun a b => a.code ≠ b.code)) (hT : PTop (uctx big sr lin (pusB big (us.take k)).length u) u) :
  Spc Tryz.prog 71 #[.pointer (some ⟨pr, 0, none⟩), .int .u32 (off : Int)] Γ H (fun v Γ' H' => v = .tuple #[] ∧ ∃ cs' d', UQs Γ' big 0 us cs' ∧ Byt Γ' d' (u.body.drop (off - offU big us k)) ∧
   H' = (pr, cel (bufc (.pointer (some ⟨pd, 0, none⟩)) (.bool big) (ufmt pu (k * 9)) (.string sInfo) off d' .nilIface (rdp pd .nilIface k lu false ls (.pointer none))) 258) :: (pu, cel cs' 279) :: F) := by
 refine Spc.perm ?_ (hp.perm.trans (List.Perm.cons _ hq.perm))
 have hk := (List.getElem?_eq_some_iff.1 hu).1
 have hoff := offU_get (big := big) hu
 have hstep := offU_step (big := big) hu
 have hmono := pusB_take_mono (big := big) (us := us) (i := k + 1) (j := us.length) (by omega) (Nat.le_refl _)
 rw [List.take_length] at hmono
 have hlz := lsz_bd u.wide
 obtain ⟨p, c0, q, rfl, hpl, ⟨d, r, es, cm, u5, rfl, hd, him, hes⟩, hback⟩ := hcs.get hu
 obtain ⟨hz8, a, its, l, hb, hD⟩ := hT
 have hd' := hd
 obtain ⟨ad, cd, rfl, hcd, -⟩ := hd'
 rw [Nat.zero_add] at hcs hback
 have hUR : ∀ {x : Obj}, UnR Γ ((pr, x) :: (pu, _) :: F) big pd pu us := fun {x} => ⟨h17.cons.cons, _, (pr, x) :: F, Pick.there Pick.here, hcs⟩
 have e9 : 0 + Int.toNat ((k : Nat) : Int) * 9 = k * 9 := by omega
 rw [Nat.zero_add]
 refine Spc.body2 Tryz.func71 rfl Tryz.ntmps71 rfl ?_
 refine gx_ ?_
 rw [show ((off : Int) == 0) = false from beq_eq_false_iff_ne.2 (by omega)]
 refine gx_ ?_
 refine WL.call rfl Tryz.call97 rfl rfl (by exact (offsetToUnit_ok (k := k) (off := off) hUR hn hall hu h1 h2)) ?_
 rintro _ _ _ - ⟨rfl, rfl, rfl⟩
 refine gx_ ?_
 rw [show (((k : Nat) : Int) == -1) = false from beq_eq_false_iff_ne.2 (by omega)]
 refine gx_ ?_
 refine WC.cutM (fun R' Γ' H' => R' = [(0, .pointer (some ⟨pr, 0, none⟩)), (1, .int .u32 (off : Int)), (4, .pointer (some ⟨pd, 0, none⟩)), (6, .int .i64 ((k : Nat) : Int))] ∧ Γ = Γ' ∧
   H' = (pr, cel (x0 :: x1 :: x2 :: x3 :: x4 :: x5 :: x6 :: rdp pd .nilIface un lu false ls (.pointer none)) 258) :: (pu, cel (p ++ (uqc (pusB big (us.take k)).length ((pusB big (us.take k)).length + lsz u.wide + hsz u) (.slice ad u.body.length cd) r u5 u.size u.vers u.wide [] ++ q)) 279) :: F) ?_ ?_
 ·cases hne : (((k : Nat) : Int) != un) with
  | true =>
   refine gx_ ?_
   exact WE.mid ⟨rfl, rfl, rfl⟩ sr_ sn_
  | false =>
   refine gx_ ?_
   exact WE.mid ⟨rfl, rfl, rfl⟩ sr_ sn_
 rintro _ _ _ ⟨rfl, rfl, rfl⟩
 refine gx_ ?_
 rw [e9]
 refine gx_ ?_
 have hP : ∀ {x : Blk} {G : List Blk}, Pick (x :: (pu, cel (p ++ (uqc (pusB big (us.take k)).length ((pusB big (us.take k)).length + lsz u.wide + hsz u) (.slice ad u.body.length cd) r u5 u.size u.vers u.wide [] ++ q)) 279) :: G) pu (cel (p ++ (uqc (pusB big (us.take k)).length ((pusB big (us.take k)).length + lsz u.wide + hsz u) (.slice ad u.body.length cd) r u5 u.size u.vers u.wide [] ++ q)) 279) (x :: G) := fun {x G} => Pick.there Pick.here
 have hw3 : IntKind.u32.wrap ((off : Int) - (((pusB big (us.take k)).length + lsz u.wide + hsz u : Nat) : Int)) = ((off - offU big us k : Nat) : Int) := by rw [w_u32 (by omega) (by omega)]; omega
 refine WC.cutM (fun R' Γ' H' => ∃ d', R' = [(0, .pointer (some ⟨pr, 0, none⟩)), (7, .pointer (some ⟨pu, k * 9, none⟩))] ∧ Γ = Γ' ∧ Byt Γ d' (u.body.drop (off - offU big us k)) ∧
   H' = (pr, cel (bufc (.pointer (some ⟨pd, 0, none⟩)) (.bool big) (ufmt pu (k * 9)) (.string sInfo) off d' .nilIface (rdp pd .nilIface k lu false ls (.pointer none))) 258) :: (pu, cel (p ++ (uqc (pusB big (us.take k)).length ((pusB big (us.take k)).length + lsz u.wide + hsz u) (.slice ad u.body.length cd) r u5 u.size u.vers u.wide [] ++ q)) 279) :: F) ?_ ?_
 ·have r1 : Rd Γ ((pr, cel (x0 :: x1 :: x2 :: x3 :: x4 :: x5 :: x6 :: rdp pd .nilIface k lu false ls (.pointer none)) 258) :: (pu, cel (p ++ (uqc (pusB big (us.take k)).length ((pusB big (us.take k)).length + lsz u.wide + hsz u) (.slice ad u.body.length cd) r u5 u.size u.vers u.wide [] ++ q)) 279) :: F) pu (k * 9 + 1) (.int .u32 (((pusB big (us.take k)).length + lsz u.wide + hsz u : Nat) : Int)) := Rd.pre (k := 1) hP rfl (by omega)
  have r2 : Rd Γ ((pr, cel (x0 :: x1 :: x2 :: x3 :: x4 :: x5 :: x6 :: rdp pd .nilIface k lu false ls (.pointer none)) 258) :: (pu, cel (p ++ (uqc (pusB big (us.take k)).length ((pusB big (us.take k)).length + lsz u.wide + hsz u) (.slice ad u.body.length cd) r u5 u.size u.vers u.wide [] ++ q)) 279) :: F) pu (k * 9 + 2) (.slice ad u.body.length cd) := Rd.pre (k := 2) hP rfl (by omega)
  refine WC.draw 22 (.take 0 (.take 1 (.take 2 (.take 3 (.take 4 (.take 5 (.take 6 (.take 7 (.take 8 (.take 9 (.take 10 (.take 11 (.take 12 (.take 13 (.take 14 (.take 15 (.take 16 (.take 17 (.take 18 (.one 19 (.one 20 (.take 21 (.one 22 .done))))))))))))))))))))))) ((pr, _) :: (pu, _) :: F) mixed xsb_ (by decide +kernel) ?_
  refine dx_ ?_
  rw [hw3]
  refine dx_ ?_
  have hord := hS.ord
  have hdr := hd.drop (off - offU big us k) (by omega)
  refine WL.call rfl Tryz.call67 rfl rfl (by exact (makeBuf_ok (off := off) (Rd.cons (Rd.cons hord)))) ?_
  rintro _ _ _ - ⟨rfl, rfl, rfl⟩
  refine dx_ ?_
  refine gx_ ?_
  exact WE.mid ⟨_, rfl, rfl, hdr, rfl⟩ sr_ sn_
 rintro _ _ _ ⟨d2, rfl, rfl, hd2, rfl⟩
 refine gx_ ?_
 have hbl : u.body.length = (ulebL a.code).length + (itexts its).length + l.length := by rw [hb, List.length_append, List.length_append]; omega
 have hTop : Top Γ (uctx big sr lin (pusB big (us.take k)).length u) u.vers u.abs ((pusB big (us.take k)).length + lsz u.wide + hsz u) (.slice ad u.body.length cd) r :=
  ⟨rfl, hz8, hdist, ⟨es, cm, him, hes⟩, a, its, l, by rw [← hb]; exact hd, hD, by omega⟩
 refine WL.call rfl Tryz.call96 rfl rfl (by exact (collectR_ok (pre := p) (q := q) (T := 279) (F := (pr, _) :: F) hG (Pick.there Pick.here) (by omega) hS.cons (.inr ⟨_, _, _, _, Pick.here, rfl⟩) hTop)) ?_
 rintro _ Γ1 _ hle ⟨rfl, u5', rfl⟩
 refine gx_ ?_
 refine WE.re (H2 := (pr, cel (bufc (.pointer (some ⟨pd, 0, none⟩)) (.bool big) (ufmt pu (k * 9)) (.string sInfo) off d2 .nilIface (rdp pd .nilIface k lu false ls (.pointer none))) 258) :: (pu, cel (p ++ uqc (pusB big (us.take k)).length ((pusB big (us.take k)).length + lsz u.wide + hsz u) (.slice ad u.body.length cd) r u5' u.size u.vers u.wide q) 279) :: F) sn_ ?_
 exact end_0 rfl hle ⟨rfl, _, d2, hback hle ⟨_, r, es, cm, u5', rfl, hd.mono hle, hle.imm _ _ him, hes.mono hle⟩, hd2.mono hle, rfl⟩
theorem maybeNext_ok {Γ : Env} {H F : List Blk} {pr : Nat} {dw ord fmt nm err : Value} {off : Nat} {d : Value} {l : List UInt8} {post : List Value} (hp : Pick H pr (cel (bufc dw ord fmt nm off d err post) 258) F) (hd : Byt Γ d l) (hl : 0 < l.length) :
  Spc Tryz.prog 160 #[.pointer (some ⟨pr, 0, none⟩)] Γ H (fun v Γ' H' => v = .tuple #[] ∧ Γ = Γ' ∧ H' = (pr, cel (bufc dw ord fmt nm off d err post) 258) :: F) := by
 obtain ⟨ad, cd, rfl, hcd, -⟩ := hd
 refine Spc.perm ?_ hp.perm
 refine Spc.body1 Tryz.func160 rfl Tryz.ntmps160 rfl ?_
 refine gz_ ?_
 refine WC.loop2 ?_
 refine gz_ ?_
 refine WC.draw 23 (.take 0 (.take 1 (.take 2 (.take 3 (.take 4 (.take 5 (.take 6 (.take 7 (.take 8 (.take 9 (.take 10 (.take 11 (.take 12 (.take 13 (.take 14 (.take 15 (.take 16 (.take 17 (.take 18 (.take 19 (.take 20 (.take 21 (.take 22 .done))))))))))))))))))))))) ((pr, _) :: []) mixed xsb_ (by decide +kernel) ?_
 refine dz_ ?_
 rw [show (((l.length : Nat) : Int) == 0) = false from beq_eq_false_iff_ne.2 (by omega)]
 refine dz_ ?_
 refine gz_ ?_
 exact end_0 rfl (Env.le.rfl' _) ⟨rfl, rfl, rfl⟩
def sibO (its : List Itm) : Nat := match its.find? (isA 1) with
 | some x => (match x.fv with | .o n => n | _ => 0)
 | none => 0
theorem next_ok {Γ : Env} {H F : List Blk} {pr pd pu k off lso : Nat} {big lu lc : Bool} {sr lin : List UInt8} {us : List PU} {u : PU} {a : Abb} {its : List Itm} {l : List UInt8} {d cu : Value}
  (hG : Glob Γ) (hp : Pick H pr (cel (bufc (.pointer (some ⟨pd, 0, none⟩)) (.bool big) (ufmt pu (k * 9)) (.string sInfo) off d .nilIface (rdp pd .nilIface k lu lc (.int .u32 (lso : Int)) cu)) 258) F)
  (hd : Byt Γ d (ulebL a.code ++ (itexts its ++ l))) (hR : UnR Γ F big pd pu us) (hu : us[k]? = some u) (hS : Secs Γ F pd (uctx big sr lin (pusB big (us.take k)).length u)) (hz : u.size = 4 ∨ u.size = 8)
  (hdist : u.abs.Pairwise (fun a b => a.code ≠ b.code)) (hD : Die (uctx big sr lin (pusB big (us.take k)).length u) u.abs a its) (hsz : off + (ulebL a.code).length + (itexts its).length + l.length ≤ 2147483648) :
  Spc Tryz.prog 156 #[.pointer (some ⟨pr, 0, none⟩)] Γ H (fun v Γ' H' => ∃ pe d' cu', v = .tuple #[.pointer (some ⟨pe, 0, none⟩), .nilIface] ∧ EntR Γ' pe off a.tag a.ch its u.vers ∧ Byt Γ' d' l ∧
   H' = (pr, cel (bufc (.pointer (some ⟨pd, 0, none⟩)) (.bool big) (ufmt pu (k * 9)) (.string sInfo) (off + (ulebL a.code).length + (itexts its).length) d' .nilIface
    (rdp pd .nilIface k (a.tag == 17 || a.tag == 60) a.ch (.int .u32 ((if a.ch then sibO its else lso : Nat) : Int)) cu')) 258) :: F) := by
 refine Spc.perm ?_ hp.perm
 have hk := (List.getElem?_eq_some_iff.1 hu).1
 obtain ⟨dU, r, es, c, u5, hdU, him, hes, hrd⟩ := hR.cell hu
 obtain ⟨⟨vs, hs1, hs2⟩, ⟨vl, hl1, hl2⟩, ho, hsl, hll⟩ := hS
 have gsl := hR.sl
 have hpos : 0 < (ulebL a.code ++ (itexts its ++ l)).length := by have := ulebL_pos a.code; rw [List.length_append]; omega
 have hd0 := hd
 obtain ⟨ad, cd, rfl, hcd, -⟩ := hd
 have e9 : 0 + Int.toNat ((k : Nat) : Int) * 9 = k * 9 := by omega
 refine Spc.body1 Tryz.func156 rfl Tryz.ntmps156 rfl ?_
 refine gz_ ?_
 refine WL.call rfl Tryz.call160 rfl rfl (by exact (maybeNext_ok Pick.here hd0 hpos)) ?_
 rintro _ _ _ - ⟨rfl, rfl, rfl⟩
 refine gz_ ?_
 rw [show ((((ulebL a.code ++ (itexts its ++ l)).length : Nat) : Int) == 0) = false from beq_eq_false_iff_ne.2 (by omega)]
 refine gz_ ?_
 refine WC.draw 13 (.take 0 (.take 1 (.take 2 (.take 3 (.take 4 (.take 5 (.take 6 (.take 7 (.take 8 (.take 9 (.take 10 (.take 11 (.one 12 .done))))))))))))) ((pr, _) :: F) mixed xsb_ (by decide +kernel) ?_
 refine dz_ ?_
 rw [e9]
 refine dz_ ?_
 refine gz_ ?_
 refine WC.draw 10 (.take 0 (.take 1 (.take 2 (.take 3 (.take 4 (.take 5 (.take 7 (.one 6 (.one 8 (.one 9 .done)))))))))) (([] : List Blk)) mixed xsb_ (by decide +kernel) ?_
 refine dz_ ?_
 refine WL.call rfl Tryz.call113 rfl rfl (by exact (entry_ok (c := uctx big sr lin (pusB big (us.take k)).length u) hG Pick.here hd0 (hrd 0 _ rfl) (hrd 3 _ rfl) (hrd 5 _ rfl) (hrd 6 _ rfl) (hrd 7 _ rfl) him hes hdist hD.mem hD.ok hD.fs hD.okI hz hs1 hs2 hl1 hl2 ho hsl hll hsz hD.few)) ?_
 rintro _ Γ1 _ hle ⟨pe, d', rfl, hE, hd', rfl⟩
 refine dz_ ?_
 refine gz_ ?_
 have h1' : Γ1.cell pe (0 + 1) = _ := hE.tag
 have h2' : Γ1.cell pe (0 + 2) = _ := hE.ch
 refine gz_ ?_
 refine WC.cutM (fun R' Γ' H' => R' = [(0, .pointer (some ⟨pr, 0, none⟩)), (5, .pointer (some ⟨pe, 0, none⟩))] ∧ Γ1 = Γ' ∧ H' = (pr, cel (bufc (.pointer (some ⟨pd, 0, none⟩)) (.bool big) (ufmt pu (k * 9)) (.string sInfo) (off + (ulebL a.code).length + (itexts its).length) d' .nilIface (rdp pd .nilIface k false a.ch (.int .u32 ((if a.ch then sibO its else lso : Nat) : Int)) cu)) 258) :: F) ?_ ?_
 ·cases hch : a.ch with
  | false =>
   refine gz_ ?_
   exact WE.mid ⟨rfl, rfl, rfl⟩ sr_ sn_
  | true =>
   refine gz_ ?_
   refine WL.call rfl Tryz.call65 rfl rfl (by exact (val_ok hE 1 hD.few)) ?_
   rintro v _ _ - ⟨rfl, rfl, hv⟩
   cases hf : its.find? (isA 1) with
   | none =>
    rw [hf] at hv
    simp only at hv
    subst hv
    rw [show sibO its = 0 by simp [sibO, hf]]
    refine gz_ ?_
    exact WE.mid ⟨rfl, rfl, rfl⟩ sr_ sn_
   | some x =>
    rw [hf] at hv
    obtain ⟨t, w, rfl, hFV⟩ := hv
    cases hx : x.fv with
    | o n =>
     rw [show sibO its = n by simp [sibO, hf, hx]]
     rw [hx] at hFV
     cases hFV
     refine gz_ ?_
     exact WE.mid ⟨rfl, rfl, rfl⟩ sr_ sn_
    | u n =>
     rw [show sibO its = 0 by simp [sibO, hf, hx]]
     rw [hx] at hFV
     cases hFV
     refine gz_ ?_
     exact WE.mid ⟨rfl, rfl, rfl⟩ sr_ sn_
    | i n =>
     rw [show sibO its = 0 by simp [sibO, hf, hx]]
     rw [hx] at hFV
     cases hFV
     refine gz_ ?_
     exact WE.mid ⟨rfl, rfl, rfl⟩ sr_ sn_
    | b n =>
     rw [show sibO its = 0 by simp [sibO, hf, hx]]
     rw [hx] at hFV
     cases hFV
     refine gz_ ?_
     exact WE.mid ⟨rfl, rfl, rfl⟩ sr_ sn_
    | s n =>
     rw [show sibO its = 0 by simp [sibO, hf, hx]]
     rw [hx] at hFV
     cases hFV
     refine gz_ ?_
     exact WE.mid ⟨rfl, rfl, rfl⟩ sr_ sn_
    | bs n =>
     rw [show sibO its = 0 by simp [sibO, hf, hx]]
     rw [hx] at hFV
     obtain ⟨w', hw', -⟩ := hFV
     cases hw'
     refine gz_ ?_
     exact WE.mid ⟨rfl, rfl, rfl⟩ sr_ sn_
 rintro _ _ _ ⟨rfl, rfl, rfl⟩
 refine gz_ ?_
 cases e17 : ((a.tag : Int) == 17) with
 | true =>
  have h17 := eq_of_beq e17
  have hlu : (a.tag == 17 || a.tag == 60) = true := by simp; omega
  refine gz_ ?_
  exact end_2 rfl rfl rfl hle ⟨pe, d', _, rfl, hE, hd', by rw [hlu]⟩
 | false =>
  have h17 : (a.tag : Int) ≠ 17 := fun h => by rw [h] at e17; cases e17
  refine gz_ ?_
  cases e60 : ((a.tag : Int) == 60) with
  | true =>
   have h60 := eq_of_beq e60
   have hlu : (a.tag == 17 || a.tag == 60) = true := by simp; omega
   refine gz_ ?_
   exact end_2 rfl rfl rfl hle ⟨pe, d', _, rfl, hE, hd', by rw [hlu]⟩
  | false =>
   have h60 : (a.tag : Int) ≠ 60 := fun h => by rw [h] at e60; cases e60
   have hlu : (a.tag == 17 || a.tag == 60) = false := by simp; omega
   refine gz_ ?_
   exact end_2 rfl rfl rfl hle ⟨pe, d', _, rfl, hE, hd', by rw [hlu]⟩
end Go.Proofs.YtbgkbgoonjkghaaGreatDoor
namespace Go.Sl
open Go
theorem Ow.to {v : Value} {n : Nat} {l l' : List UInt8} {Hs : List Blk} (h : Ow 1 v n (bytesV l) Hs) (e : l = l') : Ow 1 v l'.length (bytesV l') Hs := by
 subst e
 have h1 := h.len
 rw [show (bytesV l).length = l.length from by simp [bytesV]] at h1
 have : l.length = n := by omega
 rw [this]; exact h
end Go.Sl
namespace Go.Proofs.YtbgkbgoonjkghaaGreatDoor
open Go Go.Sl
set_option maxRecDepth 10000
set_option maxHeartbeats 40000000
structure AttT (a : Att) : Prop where
 a0 : 0 ≤ a.attr
 a1 : a.attr < 256
 f0 : 0 ≤ a.form
 f1 : a.form < 256
 sl : a.s.size ≤ 4096
 bl : a.b.length ≤ 4096
def attA (a : Att) : AbF := ⟨a.attr.toNat, if a.ind then 22 else a.form.toNat, if a.form = 33 then i64w a.n else 0⟩
def abbE (i : Nat) (x : Nod) : Abb := ⟨1 + 50 * i, x.tag.toNat, x.ch, (if x.sib then [⟨1, 19, 0⟩] else []) ++ x.atts.map attA⟩
theorem encF_len {a : Att} (h : AttT a) : (encF (attA a)).length ≤ 14 := by
 obtain ⟨h1, h2, h3, h4, -, -⟩ := h
 have e1 : (ulebL (attA a).attr).length ≤ 1 + 1 := ulebL_len 1 _ (by simp [attA]; omega)
 have e2 : (ulebL (attA a).form).length ≤ 1 + 1 := ulebL_len 1 _ (by unfold attA; simp only []; split <;> omega)
 have e3 : (slebL (attA a).val).length ≤ 10 := by
  have := i64w_bd a.n
  unfold attA; simp only []; split
  ·exact slebL_len10 this.1 this.2
  ·exact slebL_len10 (by decide) (by decide)
 unfold encF
 rw [List.length_append, List.length_append]
 split
 ·omega
 ·simp only [List.length_nil]; omega
theorem encFs_len14 {l : List Att} (h : ∀ a ∈ l, AttT a) : (encFs (l.map attA)).length ≤ 14 * l.length := by
 induction l with
 | nil => simp [encFs]
 | cons a l ih =>
  have h1 := encF_len (h a (List.mem_cons_self ..))
  have h2 := ih fun b hb => h b (List.mem_cons_of_mem _ hb)
  rw [List.map_cons, encFs, List.length_append, List.length_cons]; omega
def abH (i : Nat) (x : Nod) : List UInt8 := ulebL (1 + 50 * i) ++ ulebL x.tag.toNat ++ [if x.ch then 1 else 0] ++ (if x.sib then [1, 19] else [])
theorem abbrev_ok {Γ : Env} {H : List Blk} {i : Nat} {x : Nod} {c : List Value} (hi : i < 65536) (h : NodC Γ x c) (h0 : 0 ≤ x.tag) (h1 : x.tag ≤ 65535) (hn : x.atts.length ≤ 100) (ha : ∀ a ∈ x.atts, AttT a) :
  Spc Tryz.prog 52 #[.int .i64 (i : Int), .agg c.toArray] Γ H (fun r Γ' H' => Γ = Γ' ∧ ∃ Hs, Ow 1 r (encA (abbE i x)).length (bytesV (encA (abbE i x))) Hs ∧ H' = Hs ++ H) := by
 obtain ⟨vn, rfl, a0, cap0, cells0, rfl, hcap0, hA0, hL0⟩ := h
 have hwt : IntKind.u64.wrap x.tag = ((x.tag.toNat : Nat) : Int) := by rw [w_u64 (by omega) (by omega)]; omega
 have hl1 : (ulebL (1 + 50 * i)).length ≤ 10 := ulebL_len10 (by omega)
 have hl2 : (ulebL x.tag.toNat).length ≤ 10 := ulebL_len10 (by omega)
 refine Spc.body2 Tryz.func52 rfl Tryz.ntmps52 rfl ?_
 refine WC.seq ?_
 refine WC.region ?_
 (refine WL.box rfl spi_ rfl ?_; intro bx)
 refine gz_ ?_
 refine WC.draw 9 (.take 0 (.take 3 (.take 4 (.take 5 (.one 1 (.one 2 (.one 6 (.one 7 (.one 8 .done))))))))) ((bx, _) :: []) mixed xsb_ (by decide +kernel) ?_
 refine dz_ ?_
 refine WL.call rfl Tryz.call55 rfl rfl (by exact (code_ok hi)) ?_
 rintro _ _ _ - ⟨rfl, rfl, rfl⟩
 refine dz_ ?_
 refine WL.call rfl Tryz.call54 rfl rfl (by exact (unsigned_ok (n := 1 + 50 * i) (by omega))) ?_
 rintro r1 _ _ - ⟨rfl, H1, how1, rfl⟩
 refine dz_ ?_
 rw [hwt]
 refine WL.call rfl Tryz.call54 rfl rfl (by exact (unsigned_ok (n := x.tag.toNat) (by omega))) ?_
 rintro r2 _ _ - ⟨rfl, H2, how2, rfl⟩
 refine dz_ ?_
 refine WL.append tab_ok rfl rfl rfl rfl rfl rfl rfl rfl how1 tk_ (how2.src tab_ok rfl tk_ one_bytes) (by omega) (by omega) (fun v3 Hs3 how3 => ?_)
 refine dz_ ?_
 refine WC.seq ?_
 refine WC.region ?_
 refine gs_ ?_
 refine WE.then_ ?_
 refine WC.seq ?_
 refine WC.cutM (fun R' Γ' H' => R' = [(3, .pointer (some ⟨bx, 0, none⟩)), (5, v3), (6, .int .u8 (((if x.ch then 1 else 0 : UInt8)).toNat : Int))] ∧ Γ = Γ' ∧ H' = Hs3 ++ ((bx, cel [.int .i64 x.tag, .bool x.ch, .bool x.sib, .slice a0 x.atts.length cap0] 102) :: H)) ?_ ?_
 ·refine gz_ ?_
  cases hch : x.ch with
  | true =>
   refine gz_ ?_
   exact WE.mid ⟨rfl, rfl, rfl⟩ sr_ sn_
  | false =>
   refine gz_ ?_
   exact WE.mid ⟨rfl, rfl, rfl⟩ sr_ sn_
 rintro _ _ _ ⟨rfl, rfl, rfl⟩
 refine WE.then_ ?_
 refine WC.seq ?_
 refine WC.region ?_
 refine gs_ ?_
 (refine WL.lit tab_ok rfl rfl rfl rfl rfl rfl rfl spi_ rfl ?_; intro bl)
 refine gs_ ?_
 refine WL.append tab_ok rfl rfl rfl rfl rfl rfl rfl rfl how3 tk_ ((Ow.lit (s := 1) (b := bl) (k := 1) (l := bytesV [if x.ch then 1 else 0]) (T := 5) rfl).src tab_ok rfl t1_ one_bytes) (by omega) (by omega) (fun v4 Hs4 how4 => ?_)
 refine gs_ ?_
 refine WE.then_ ?_
 refine WC.seq ?_
 refine WC.cutM (fun R' Γ' H' => ∃ r Hs, R' = [(3, .pointer (some ⟨bx, 0, none⟩)), (5, r)] ∧ Γ = Γ' ∧ Ow 1 r (abH i x).length (bytesV (abH i x)) Hs ∧ H' = Hs ++ ((bx, cel [.int .i64 x.tag, .bool x.ch, .bool x.sib, .slice a0 x.atts.length cap0] 102) :: H)) ?_ ?_
 ·refine gz_ ?_
  rw [← bytesV_append, ← bytesV_append] at how4
  cases hs : x.sib with
  | true =>
   refine gz_ ?_
   (refine WL.lit tab_ok rfl rfl rfl rfl rfl rfl rfl spi_ rfl ?_; intro bl2)
   refine gz_ ?_
   refine WL.append tab_ok rfl rfl rfl rfl rfl rfl rfl rfl how4 tk_ ((Ow.lit (s := 1) (b := bl2) (k := 2) (l := bytesV [1, 19]) (T := 5) rfl).src tab_ok rfl t1_ one_bytes) (by omega) (by omega) (fun v5 Hs5 how5 => ?_)
   refine gz_ ?_
   rw [← bytesV_append] at how5
   refine WE.mid ⟨_, Hs5, rfl, rfl, ?_, rfl⟩ sr_ sn_
   have el : (abH i x).length = (ulebL (1 + 50 * i)).length + (ulebL x.tag.toNat).length + 1 + 2 := by simp [abH, hs]; omega
   rw [el, abH, hs]; exact how5
  | false =>
   refine gz_ ?_
   refine WE.mid ⟨_, Hs4, rfl, rfl, ?_, rfl⟩ sr_ sn_
   have el : (abH i x).length = (ulebL (1 + 50 * i)).length + (ulebL x.tag.toNat).length + 1 := by simp [abH, hs]; omega
   rw [el, abH, hs]; simpa using how4
 rintro _ _ _ ⟨r, Hs, rfl, rfl, how, rfl⟩
 have hhl : (abH i x).length ≤ 23 := by unfold abH; cases x.sib <;> simp <;> omega
 refine gz_ ?_
 have hsum : ∀ k, (encFs ((x.atts.take k).map attA)).length ≤ 14 * k := fun k => Nat.le_trans (encFs_len14 fun a h => ha a (List.mem_of_mem_take h)) (by rw [List.length_take]; omega)
 refine WC.loopE (fun m R' Γ' H' => ∃ k v Hs, R' = [(5, v), (30, .slice a0 x.atts.length cap0), (31, .int .i64 (x.atts.length : Int)), (32, .int .i64 ((k : Nat) : Int))] ∧ Γ = Γ' ∧ H' = Hs ++ H ∧ m = x.atts.length - k ∧ k ≤ x.atts.length ∧ Ow 1 v (abH i x ++ encFs ((x.atts.take k).map attA)).length (bytesV (abH i x ++ encFs ((x.atts.take k).map attA))) Hs)
  ⟨0, r, Hs, rfl, rfl, rfl, rfl, Nat.zero_le _, by simpa [encFs] using how⟩ sr_ sn_ ?_
 clear how
 rintro m R' Γ' H' ⟨k, v, Hs, rfl, rfl, rfl, rfl, hk, how⟩
 have hkl := hsum k
 rcases Nat.lt_or_ge k x.atts.length with hlt | hge
 case inr =>
  have ek : k = x.atts.length := by omega
  subst ek
  refine gz_ ?_
  refine WC.condF rfl (decide_eq_false (by omega)) ?_
  refine gz_ ?_
  (refine WL.lit tab_ok rfl rfl rfl rfl rfl rfl rfl spi_ rfl ?_; intro bl3)
  refine gz_ ?_
  rw [List.take_length] at how
  rw [List.take_length] at hkl
  have hl9 : (abH i x ++ encFs (x.atts.map attA)).length ≤ 2000 := by rw [List.length_append]; omega
  refine WL.append tab_ok rfl rfl rfl rfl rfl rfl rfl rfl how tk_ ((Ow.lit (s := 1) (b := bl3) (k := 2) (l := bytesV [0, 0]) (T := 5) rfl).src tab_ok rfl t1_ one_bytes) (by omega) (by omega) (fun v5 Hs5 how5 => ?_)
  refine gz_ ?_
  rw [← bytesV_append] at how5
  have e : encA (abbE i x) = abH i x ++ encFs (x.atts.map attA) ++ [0, 0] := by
   unfold encA abbE abH; cases x.sib <;> cases x.ch <;> simp [encFs, encFs_append, encF, ulebL_small]
  refine WE.re (H2 := Hs5 ++ H) sn_ ?_
  refine end_1 rfl rfl (Env.le.rfl' _) ⟨rfl, Hs5, ?_, rfl⟩
  rw [e, List.length_append]; exact how5
 case inl =>
  obtain ⟨y, hy⟩ : ∃ y, x.atts[k]? = some y := ⟨_, List.getElem?_eq_getElem hlt⟩
  obtain ⟨bb, oo, c, rfl, hP, hc⟩ := elemA hA0 hL0 (fun _ _ h => h.len) (w := 6) (by decide) hy
  obtain ⟨vb, rfl, ⟨ab, cb, rfl, -, -⟩, hyn⟩ := hP
  have hyt := ha y (List.mem_of_getElem? hy)
  obtain ⟨ya0, ya1, yf0, yf1, -, -⟩ := hyt
  have hwi : IntKind.i64.wrap ((k : Int) + 1) = (k : Int) + 1 := w_i64 (by omega) (by omega)
  refine gz_ ?_
  refine WC.condT rfl tr_ ?_
  refine gz_ ?_
  (refine WL.alloc tab_ok rfl rfl ?_; intro b8)
  refine gz_ ?_
  refine WC.cutM (fun R' Γ' H' => R' = [(5, v), (8, .pointer (some ⟨b8, 0, none⟩)), (9, .int .i64 (attA y).form), (30, .slice (some ⟨bb, oo, none⟩) x.atts.length cap0), (31, .int .i64 (x.atts.length : Int)), (32, .int .i64 ((k : Nat) : Int))] ∧ Γ = Γ' ∧ H' = (b8, cel [.int .i64 y.attr, .int .i64 y.form, .bool y.ind, .int .u64 (y.n : Int), .string y.s, .slice ab y.b.length cb] 142) :: (Hs ++ H)) ?_ ?_
  ·refine gz_ ?_
   cases hi2 : y.ind with
   | true =>
    refine gz_ ?_
    have e : ((attA y).form : Int) = 22 := by simp [attA, hi2]
    rw [e]
    exact WE.mid ⟨rfl, rfl, rfl⟩ sr_ sn_
   | false =>
    refine gz_ ?_
    have e : ((attA y).form : Int) = y.form := by simp [attA, hi2]; omega
    rw [e]
    exact WE.mid ⟨rfl, rfl, rfl⟩ sr_ sn_
  rintro _ _ _ ⟨rfl, rfl, rfl⟩
  have hya : IntKind.u64.wrap y.attr = ((attA y).attr : Int) := by rw [w_u64 (by omega) (by omega)]; simp [attA]; omega
  have hyf : IntKind.u64.wrap ((attA y).form : Int) = ((attA y).form : Int) := by
   have : (attA y).form < 256 := by unfold attA; simp only []; split <;> omega
   rw [w_u64 (by omega) (by omega)]
  have hfl : (attA y).form < 256 := by unfold attA; simp only []; split <;> omega
  have hal : (attA y).attr < 256 := by simp [attA]; omega
  have hl1 : (ulebL (attA y).attr).length ≤ 10 := ulebL_len10 (by omega)
  have hl2 : (ulebL (attA y).form).length ≤ 10 := ulebL_len10 (by omega)
  have hl9 : (abH i x ++ encFs ((x.atts.take k).map attA)).length ≤ 1500 := by rw [List.length_append]; omega
  have htk : encFs ((x.atts.take (k + 1)).map attA) = encFs ((x.atts.take k).map attA) ++ encF (attA y) := by
   rw [List.take_add_one, hy, Option.toList_some, List.map_append, encFs_append]; simp [encFs]
  refine gz_ ?_
  rw [hya]
  refine WL.call rfl Tryz.call54 rfl rfl (by exact (unsigned_ok (n := (attA y).attr) (by omega))) ?_
  rintro r1 _ _ - ⟨rfl, H1, how1, rfl⟩
  refine gz_ ?_
  refine WL.append tab_ok rfl rfl rfl rfl rfl rfl rfl rfl how tk_ (how1.src tab_ok rfl tk_ one_bytes) (by omega) (by omega) (fun v3 Hs3 how3 => ?_)
  refine gz_ ?_
  rw [hyf]
  refine WL.call rfl Tryz.call54 rfl rfl (by exact (unsigned_ok (n := (attA y).form) (by omega))) ?_
  rintro r2 _ _ - ⟨rfl, H2, how2, rfl⟩
  refine gz_ ?_
  refine WL.append tab_ok rfl rfl rfl rfl rfl rfl rfl rfl how3 tk_ (how2.src tab_ok rfl tk_ one_bytes) (by omega) (by omega) (fun v4 Hs4 how4 => ?_)
  rw [← bytesV_append, ← bytesV_append] at how4
  refine gz_ ?_
  by_cases h33 : (attA y).form = 33
  ·refine WC.condT rfl (beq_iff_eq.2 (by omega)) ?_
   have hyf33 : y.form = 33 := by
    by_cases hi2 : y.ind = true
    ·simp [attA, hi2] at h33
    ·simp [attA, hi2] at h33; omega
   refine gz_ ?_
   refine WL.call rfl Tryz.call78 rfl rfl (by exact (signed_ok (z := i64w y.n) (i64w_bd y.n).1 (i64w_bd y.n).2)) ?_
   rintro r5 _ _ - ⟨rfl, H5, how5, rfl⟩
   have hl5 : (slebL (i64w y.n)).length ≤ 10 := slebL_len10 (i64w_bd y.n).1 (i64w_bd y.n).2
   refine gz_ ?_
   refine WL.append tab_ok rfl rfl rfl rfl rfl rfl rfl rfl how4 tk_ (how5.src tab_ok rfl tk_ one_bytes) (by omega) (by omega) (fun v6 Hs6 how6 => ?_)
   rw [← bytesV_append] at how6
   refine gz_ ?_
   refine WE.again ⟨k + 1, v6, Hs6, rfl, rfl, rfl, rfl, hlt, ?_⟩ (by omega) ⟨rfl, rfl, rfl, congrArg (fun z => some (Value.int .i64 z)) hwi, trivial⟩ sn_
   have e : encF (attA y) = ulebL (attA y).attr ++ (ulebL (attA y).form ++ slebL (i64w y.n)) := by
    unfold encF; rw [if_pos h33]; simp [attA, hyf33]
   exact how6.to (by rw [htk, e]; simp [List.append_assoc])
  ·refine WC.condF rfl (beq_eq_false_iff_ne.2 (by omega)) ?_
   refine gz_ ?_
   refine WE.again ⟨k + 1, v4, Hs4, rfl, rfl, rfl, rfl, hlt, ?_⟩ (by omega) ⟨rfl, rfl, rfl, congrArg (fun z => some (Value.int .i64 z)) hwi, trivial⟩ sn_
   have e : encF (attA y) = ulebL (attA y).attr ++ ulebL (attA y).form := by
    unfold encF; rw [if_neg h33]; simp
   exact how4.to (by rw [htk, e]; simp [List.append_assoc])
end Go.Proofs.YtbgkbgoonjkghaaGreatDoor
