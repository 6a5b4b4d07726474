/- offsetToUnit. Seek to an entry of a unit. Next, where an entry stands. The entry at an offset. Lists of places ahead of version 5. Lists of places from version 5 on. -/
import Derived.Test.YtdplhbmoidepgaaGreatDoorE1
import Derived.Test.YtdplhbmoidepgaaGreatDoorG1
import Derived.Test.YtdplhbmoidepgaaGreatDoorH1
import Derived.Test.YtdplhbmoidepgaaGreatDoorH3
namespace Go.Proofs.YtdplhbmoidepgaaGreatDoor
open Go Go.Sl
set_option maxRecDepth 10000
set_option maxHeartbeats 40000000

theorem otu1_ok {Γ : Env} {F : List Blk} {b2 b3 pd pu n i off o : Nat} (h17 : Rd Γ F pd 17 (.slice (some ⟨pu, 0, none⟩) n n)) (hi : i < n) (hu : Rd Γ F pu (i * 9 + 1) (.int .u32 (o : Int))) :
   Spc Tryz.prog 88 #[.int .i64 (i : Int), .pointer (some ⟨b2, 0, none⟩), .pointer (some ⟨b3, 0, none⟩)] Γ ((b3, cel [.int .u32 (off : Int)] 141) :: (b2, cel [.pointer (some ⟨pd, 0, none⟩)] 89) :: F)
     (fun v Γ' H' => Γ = Γ' ∧ H' = (b3, cel [.int .u32 (off : Int)] 141) :: (b2, cel [.pointer (some ⟨pd, 0, none⟩)] 89) :: F ∧ v = .bool (decide (off < o))) := by
  have e : 0 + Int.toNat ((i : Nat) : Int) * 9 + 1 = i * 9 + 1 := by omega
  rw [← e] at hu
  have g17 := (h17.cons (x := (b2, cel [.pointer (some ⟨pd, 0, none⟩)] 89))).cons (x := (b3, cel [.int .u32 (off : Int)] 141))
  have gu := (hu.cons (x := (b2, cel [.pointer (some ⟨pd, 0, none⟩)] 89))).cons (x := (b3, cel [.int .u32 (off : Int)] 141))
  refine Spc.body3 Tryz.func88 rfl Tryz.ntmps88 rfl ?_
  refine gz_ ?_
  refine WC.draw 11 (.take 0 (.take 1 (.take 2 (.take 3 (.take 4 (.take 5 (.take 6 (.take 7 (.take 8 (.take 9 (.one 10 .done))))))))))) ((b3, _) :: (b2, _) :: F) mixed (by (repeat (first | exact trivial | refine ⟨⟨_, pk_⟩, ?_⟩ | exact subH_self _ | apply subH_cons)); (first | done | fail)) (by decide +kernel) ?_
  refine dz_ ?_
  refine gz_ ?_
  refine end_1 rfl rfl (Env.le.rfl' _) ⟨rfl, rfl, ?_⟩
  congr 1
  have : ((off : Int) < (o : Int)) ↔ off < o := Int.ofNat_lt
  simp [this]
theorem search_ok {Γ : Env} {H : List Blk} {n m : Nat} {p : Nat → Bool} {x2 x3 : Value} (hn : n ≤ 2147483647) (hm : m ≤ n) (h1 : ∀ i, i < m → p i = false) (h2 : ∀ i, m ≤ i → i < n → p i = true)
   (hf : ∀ i, i < n → Spc Tryz.prog 88 #[.int .i64 (i : Int), x2, x3] Γ H (fun v Γ' H' => Γ = Γ' ∧ H' = H ∧ v = .bool (p i))) :
   Spc Tryz.prog 87 #[.int .i64 (n : Int), .func (.func 88) #[] #[x2, x3]] Γ H (fun v Γ' H' => Γ = Γ' ∧ H' = H ∧ v = .int .i64 (m : Int)) := by
  refine Spc.body2 Tryz.func87 rfl Tryz.ntmps87 rfl ?_
  refine gz_ ?_
  refine WC.loopE (fun k R' Γ' H' => ∃ i j : Nat, R' = [(1, .func (.func 88) #[] #[x2, x3]), (5, .int .i64 (i : Int)), (6, .int .i64 (j : Int))] ∧ Γ = Γ' ∧ H' = H ∧ k = j - i ∧ i ≤ m ∧ m ≤ j ∧ j ≤ n)
    ⟨0, n, rfl, rfl, rfl, rfl, Nat.zero_le _, hm, Nat.le_refl _⟩ sr_ (fun _ h => h) ?_
  rintro k R' Γ' H' ⟨i, j, rfl, rfl, rfl, rfl, hi, hj, hjn⟩
  rcases Nat.lt_or_ge i j with hlt | hge
  case inr =>
    have : i = m := by omega
    subst this
    refine gz_ ?_
    refine WC.condF rfl (decide_eq_false (by omega)) ?_
    refine gz_ ?_
    exact end_1 rfl rfl (Env.le.rfl' _) ⟨rfl, rfl, rfl⟩
  case inl =>
    refine gz_ ?_
    refine WC.condT rfl (by first | rfl | exact decide_eq_true (by omega) | (simp; (first | done | fail)) | (simp; omega)) ?_
    refine gz_ ?_
    have hmid : IntKind.i64.wrap ((IntKind.u64.wrap (IntKind.i64.wrap ((i : Int) + (j : Int)))).fdiv (2 ^ min (Int.toNat 1) IntKind.u64.bits)) = (((i + j) / 2 : Nat) : Int) := by
      rw [show ((2 : Int) ^ min (Int.toNat 1) IntKind.u64.bits) = 2 from by decide, w_i64 (x := (i : Int) + (j : Int)) (by omega) (by omega), w_u64 (by omega) (by omega), Int.fdiv_eq_ediv_of_nonneg _ (by decide), w_i64 (by omega) (by omega)]
      omega
    rw [hmid]
    have hh1 : i ≤ (i + j) / 2 := by omega
    have hh2 : (i + j) / 2 < j := by omega
    generalize (i + j) / 2 = q at hh1 hh2
    refine WL.call rfl Tryz.call88 rfl rfl (by exact (hf q (by omega))) ?_
    rintro _ _ _ - ⟨rfl, rfl, rfl⟩
    refine gz_ ?_
    have hwq : IntKind.i64.wrap ((q : Int) + 1) = ((q + 1 : Nat) : Int) := by rw [w_i64 (by omega) (by omega)]; omega
    cases hp : p q with
    | false =>
      have : q < m := by
        rcases Nat.lt_or_ge q m with h | h
        · exact h
        · rw [h2 q h (by omega)] at hp; cases hp
      refine gz_ ?_
      rw [hwq]
      exact WE.again ⟨q + 1, j, rfl, rfl, rfl, rfl, by omega, hj, hjn⟩ (by omega) sr_ (fun _ h => h)
    | true =>
      have : m ≤ q := by
        rcases Nat.lt_or_ge q m with h | h
        · rw [h1 q h] at hp; cases hp
        · exact h
      refine gz_ ?_
      exact WE.again ⟨i, q, rfl, rfl, rfl, rfl, hi, this, by omega⟩ (by omega) sr_ (fun _ h => h)
/-- Where the units' first entries stand. -/
def offU (big : Bool) (us : List PU) (i : Nat) : Nat := (pusB big (us.take i)).length + (match us[i]? with | some u => lsz u.wide + hsz u | none => 0)
theorem offU_get {big : Bool} {us : List PU} {i : Nat} {u : PU} (h : us[i]? = some u) : offU big us i = (pusB big (us.take i)).length + lsz u.wide + hsz u := by unfold offU; rw [h]; simp only []; omega
theorem offU_step {big : Bool} {us : List PU} {i : Nat} {u : PU} (h : us[i]? = some u) : offU big us i + u.body.length = (pusB big (us.take (i + 1))).length := by
  rw [offU_get h, pusB_take h, puB_length]; omega
theorem pusB_take_mono {big : Bool} {us : List PU} : ∀ {i j : Nat}, i ≤ j → j ≤ us.length → (pusB big (us.take i)).length ≤ (pusB big (us.take j)).length := by
  intro i j h
  induction j with
  | zero => intro _; have : i = 0 := by omega
            subst this; exact Nat.le_refl _
  | succ j ih =>
    intro hj
    rcases Nat.lt_or_ge i (j + 1) with hlt | hge
    · have h1 := ih (by omega) (by omega)
      obtain ⟨u, hu⟩ : ∃ u, us[j]? = some u := ⟨_, List.getElem?_eq_getElem (by omega)⟩
      rw [pusB_take hu]; omega
    · have : i = j + 1 := by omega
      subst this; exact Nat.le_refl _
theorem offU_lt {big : Bool} {us : List PU} {i j : Nat} (h : i < j) (hj : j < us.length) : offU big us i < offU big us j := by
  obtain ⟨u, hu⟩ : ∃ u, us[i]? = some u := ⟨_, List.getElem?_eq_getElem (by omega)⟩
  obtain ⟨v, hv⟩ : ∃ u, us[j]? = some u := ⟨_, List.getElem?_eq_getElem hj⟩
  have h1 := offU_step (big := big) hu
  have h2 := pusB_take_mono (big := big) (us := us) (i := i + 1) (j := j) h (by omega)
  have h3 := lsz_bd v.wide
  rw [offU_get hv]; omega
/-- What is read of a file's units. -/
structure UnR (Γ : Env) (F : List Blk) (big : Bool) (pd pu : Nat) (us : List PU) : Prop where
  sl : Rd Γ F pd 17 (.slice (some ⟨pu, 0, none⟩) us.length us.length)
  cells : ∃ cs F2, Pick F pu (cel cs 178) F2 ∧ UQs Γ big 0 us cs
theorem UnR.cell {Γ : Env} {F : List Blk} {big : Bool} {pd pu : Nat} {us : List PU} (h : UnR Γ F big pd pu us) {i : Nat} {u : PU} (hu : us[i]? = some u) : ∃ d r es c u5, Byt Γ d u.body ∧ Γ.imm r = some (.map (es : List MapEntry).toArray c) ∧ AbEnts Γ u.vers u.abs es ∧
    ∀ (k : Nat) (v : Value), (uqc (pusB big (us.take i)).length (offU big us i) d r u5 u.size u.vers u.wide [])[k]? = some v → Rd Γ F pu (i * 9 + k) v := by
  obtain ⟨cs, F2, hp, hcs⟩ := h.cells
  obtain ⟨p, c0, q, rfl, hpl, ⟨d, r, es, cm, u5, rfl, hd, him, hes⟩, -⟩ := hcs.get hu
  refine ⟨d, r, es, cm, u5, hd, him, hes, fun k v hk => .inr ⟨_, _, _, _, hp, ?_⟩⟩
  simp only [List.getElem?_toArray]
  rw [List.getElem?_append_right (by omega), hpl, Nat.add_sub_cancel_left, List.getElem?_append_left (List.getElem?_eq_some_iff.1 (by rw [offU_get hu] at hk; rw [Nat.zero_add]; exact hk)).1]
  rw [offU_get hu] at hk; rw [Nat.zero_add]; exact hk
theorem UnR.cons {Γ : Env} {F : List Blk} {x : Blk} {big : Bool} {pd pu : Nat} {us : List PU} (h : UnR Γ F big pd pu us) : UnR Γ (x :: F) big pd pu us := by
  obtain ⟨h1, cs, F2, h2, h3⟩ := h
  exact ⟨h1.cons, cs, x :: F2, Pick.there h2, h3⟩
theorem offsetToUnit_ok {Γ : Env} {F : List Blk} {pd pu off k : Nat} {big : Bool} {us : List PU} {u : PU} (hR : UnR Γ F big pd pu us) (hn : us.length ≤ 2147483647) (hall : (pusB big us).length < 2147483648) (hu : us[k]? = some u) (h1 : offU big us k ≤ off) (h2 : off < offU big us k + u.body.length) :
   Spc Tryz.prog 64 #[.pointer (some ⟨pd, 0, none⟩), .int .u32 (off : Int)] Γ F (fun v Γ' H' => Γ = Γ' ∧ H' = F ∧ v = .int .i64 (k : Int)) := by
  have hk := (List.getElem?_eq_some_iff.1 hu).1
  have hstep := offU_step (big := big) hu
  have hmono := pusB_take_mono (big := big) (us := us) (i := k + 1) (j := us.length) (by omega) (Nat.le_refl _)
  rw [List.take_length] at hmono
  have gsl := hR.sl
  refine Spc.body2 Tryz.func64 rfl Tryz.ntmps64 rfl ?_
  refine WC.seq ?_
  refine WC.region ?_
  (refine WL.box rfl spi_ rfl ?_; intro b2)
  (refine WL.box rfl spi_ rfl ?_; intro b3)
  refine gz_ ?_
  have g17 := (gsl.cons (x := (b2, cel [.pointer (some ⟨pd, 0, none⟩)] 89))).cons (x := (b3, cel [.int .u32 (off : Int)] 141))
  refine gz_ ?_
  refine WL.call rfl Tryz.call87 rfl rfl (by exact (search_ok (n := us.length) (m := k + 1) (p := fun i => decide (off < offU big us i)) hn (by omega) (fun i hi => by
      have : offU big us i ≤ offU big us k := by
        rcases Nat.lt_or_ge i k with h | h
        · exact Nat.le_of_lt (offU_lt h hk)
        · have : i = k := by omega
          subst this; exact Nat.le_refl _
      simp only [decide_eq_false_iff_not]; omega) (fun i hi hil => by
      obtain ⟨v, hv⟩ : ∃ u, us[i]? = some u := ⟨_, List.getElem?_eq_getElem hil⟩
      have h3 := pusB_take_mono (big := big) (us := us) (i := k + 1) (j := i) hi (by omega)
      have h4 := lsz_bd v.wide
      have h5 := offU_get (big := big) hv
      simp only [decide_eq_true_eq]; omega) (fun i hi => by
      obtain ⟨v, hv⟩ : ∃ u, us[i]? = some u := ⟨_, List.getElem?_eq_getElem hi⟩
      obtain ⟨d, r, es, c, u5, -, -, -, hrd⟩ := hR.cell hv
      exact otu1_ok (off := off) gsl hi (hrd 1 _ rfl)))) ?_
  rintro _ _ _ - ⟨rfl, rfl, rfl⟩
  obtain ⟨d, r, es, c, u5, hd, -, -, hrd⟩ := hR.cell hu
  obtain ⟨ad, cd, rfl, -, -⟩ := hd
  have hk1 : IntKind.i64.wrap (((k + 1 : Nat) : Int) - 1) = (k : Int) := by rw [w_i64 (by omega) (by omega)]; omega
  refine gz_ ?_
  rw [show (((k + 1 : Nat) : Int) == 0) = false from beq_eq_false_iff_ne.2 (by omega)]
  refine gz_ ?_
  rw [hk1]
  refine gz_ ?_
  have c1 : Rd Γ ((b3, cel [.int .u32 (off : Int)] 141) :: (b2, cel [.pointer (some ⟨pd, 0, none⟩)] 89) :: F) pu (0 + Int.toNat ((k : Nat) : Int) * 9 + 1) (.int .u32 (offU big us k : Int)) := by
    rw [show 0 + Int.toNat ((k : Nat) : Int) * 9 + 1 = k * 9 + 1 by omega]; exact ((hrd 1 _ rfl).cons).cons
  have c2 : Rd Γ ((b3, cel [.int .u32 (off : Int)] 141) :: (b2, cel [.pointer (some ⟨pd, 0, none⟩)] 89) :: F) pu (0 + Int.toNat ((k : Nat) : Int) * 9 + 2) (.slice ad u.body.length cd) := by
    rw [show 0 + Int.toNat ((k : Nat) : Int) * 9 + 2 = k * 9 + 2 by omega]; exact ((hrd 2 _ rfl).cons).cons
  refine WC.draw 21 (.take 0 (.take 1 (.take 2 (.take 3 (.take 4 (.take 5 (.take 6 (.take 7 (.take 8 (.take 9 (.take 10 (.take 11 (.take 12 (.take 13 (.take 14 (.take 15 (.take 16 (.take 17 (.take 18 (.take 19 (.take 20 .done))))))))))))))))))))) ((b3, _) :: (b2, _) :: F) mixed (by (repeat (first | exact trivial | refine ⟨⟨_, pk_⟩, ?_⟩ | exact subH_self _ | apply subH_cons)); (first | done | fail)) (by decide +kernel) ?_
  refine dz_ ?_
  rw [show decide ((offU big us k : Int) ≤ (off : Int)) = true from decide_eq_true (by omega)]
  refine dz_ ?_
  have hw2 : IntKind.u32.wrap ((offU big us k : Int) + IntKind.u32.wrap ((u.body.length : Nat) : Int)) = ((offU big us k + u.body.length : Nat) : Int) := by
    rw [w_u32 (x := ((u.body.length : Nat) : Int)) (by omega) (by omega), w_u32 (by omega) (by omega)]; omega
  rw [hw2]
  refine gz_ ?_
  refine WC.condT rfl (decide_eq_true (by omega)) ?_
  refine gz_ ?_
  rw [hk1]
  refine WE.drop (b := b3) pk_ ?_
  refine WE.drop (b := b2) pk_ ?_
  exact end_1 rfl rfl (Env.le.rfl' _) ⟨rfl, rfl, rfl⟩
end Go.Proofs.YtdplhbmoidepgaaGreatDoor
namespace Go.Proofs.YtdplhbmoidepgaaGreatDoor
open Go Go.Sl
set_option maxRecDepth 10000
set_option maxHeartbeats 40000000

theorem seekAt_ok {Γ : Env} {H F F1 : List Blk} {pr pd pu k off : Nat} {un : Int} {big lu lc : Bool} {sr lin : List UInt8} {us : List PU} {u : PU} {cs : List Value} {x0 x1 x2 x3 x4 x5 x6 err ls : Value}
   (hG : Glob Γ) (hp : Pick H pr (cel (x0 :: x1 :: x2 :: x3 :: x4 :: x5 :: x6 :: rdp pd err un lu lc ls (.pointer none)) 150) F1) (hq : Pick F1 pu (cel cs 178) F) (hcs : UQs Γ big 0 us cs)
   (hS : Secs Γ F pd (uctx big sr lin (pusB big (us.take k)).length u)) (h17 : Rd Γ F pd 17 (.slice (some ⟨pu, 0, none⟩) us.length us.length)) (hn : us.length ≤ 2147483647) (hall : (pusB big us).length < 2147483648)
   (hu : us[k]? = some u) (h1 : offU big us k ≤ off) (h2 : off < offU big us k + u.body.length) (hdist : u.abs.Pairwise (fun a b => a.code ≠ b.code)) (hT : PTop (uctx big sr lin (pusB big (us.take k)).length u) u) :
   Spc Tryz.prog 60 #[.pointer (some ⟨pr, 0, none⟩), .int .u32 (off : Int)] Γ H (fun v Γ' H' => v = .tuple #[] ∧ ∃ cs' d', UQs Γ' big 0 us cs' ∧ Byt Γ' d' (u.body.drop (off - offU big us k)) ∧
     H' = (pr, cel (bufc (.pointer (some ⟨pd, 0, none⟩)) (.bool big) (ufmt pu (k * 9)) (.string sInfo) off d' .nilIface (rdp pd .nilIface k lu false ls (.pointer none))) 150) :: (pu, cel cs' 178) :: F) := by
  refine Spc.perm ?_ (hp.perm.trans (List.Perm.cons _ hq.perm))
  have hk := (List.getElem?_eq_some_iff.1 hu).1
  have hoff := offU_get (big := big) hu
  have hstep := offU_step (big := big) hu
  have hmono := pusB_take_mono (big := big) (us := us) (i := k + 1) (j := us.length) (by omega) (Nat.le_refl _)
  rw [List.take_length] at hmono
  have hlz := lsz_bd u.wide
  obtain ⟨p, c0, q, rfl, hpl, ⟨d, r, es, cm, u5, rfl, hd, him, hes⟩, hback⟩ := hcs.get hu
  obtain ⟨hz8, a, its, l, hb, hD⟩ := hT
  have hd' := hd
  obtain ⟨ad, cd, rfl, hcd, -⟩ := hd'
  rw [Nat.zero_add] at hcs hback
  have hUR : ∀ {x : Obj}, UnR Γ ((pr, x) :: (pu, _) :: F) big pd pu us := fun {x} => ⟨h17.cons.cons, _, (pr, x) :: F, Pick.there Pick.here, hcs⟩
  have e9 : 0 + Int.toNat ((k : Nat) : Int) * 9 = k * 9 := by omega
  rw [Nat.zero_add]
  refine Spc.body2 Tryz.func60 rfl Tryz.ntmps60 rfl ?_
  refine gx_ ?_
  rw [show ((off : Int) == 0) = false from beq_eq_false_iff_ne.2 (by omega)]
  refine gx_ ?_
  refine WL.call rfl Tryz.call64 rfl rfl (by exact (offsetToUnit_ok (k := k) (off := off) hUR hn hall hu h1 h2)) ?_
  rintro _ _ _ - ⟨rfl, rfl, rfl⟩
  refine gx_ ?_
  rw [show (((k : Nat) : Int) == -1) = false from beq_eq_false_iff_ne.2 (by omega)]
  refine gx_ ?_
  refine WC.cutM (fun R' Γ' H' => R' = [(0, .pointer (some ⟨pr, 0, none⟩)), (1, .int .u32 (off : Int)), (4, .pointer (some ⟨pd, 0, none⟩)), (6, .int .i64 ((k : Nat) : Int))] ∧ Γ = Γ' ∧
     H' = (pr, cel (x0 :: x1 :: x2 :: x3 :: x4 :: x5 :: x6 :: rdp pd .nilIface un lu false ls (.pointer none)) 150) :: (pu, cel (p ++ (uqc (pusB big (us.take k)).length ((pusB big (us.take k)).length + lsz u.wide + hsz u) (.slice ad u.body.length cd) r u5 u.size u.vers u.wide [] ++ q)) 178) :: F) ?_ ?_
  · cases hne : (((k : Nat) : Int) != un) with
    | true =>
      refine gx_ ?_
      exact WE.mid ⟨rfl, rfl, rfl⟩ sr_ sn_
    | false =>
      refine gx_ ?_
      exact WE.mid ⟨rfl, rfl, rfl⟩ sr_ sn_
  rintro _ _ _ ⟨rfl, rfl, rfl⟩
  refine gx_ ?_
  rw [e9]
  refine gx_ ?_
  have hP : ∀ {x : Blk} {G : List Blk}, Pick (x :: (pu, cel (p ++ (uqc (pusB big (us.take k)).length ((pusB big (us.take k)).length + lsz u.wide + hsz u) (.slice ad u.body.length cd) r u5 u.size u.vers u.wide [] ++ q)) 178) :: G) pu (cel (p ++ (uqc (pusB big (us.take k)).length ((pusB big (us.take k)).length + lsz u.wide + hsz u) (.slice ad u.body.length cd) r u5 u.size u.vers u.wide [] ++ q)) 178) (x :: G) := fun {x G} => Pick.there Pick.here
  have hw3 : IntKind.u32.wrap ((off : Int) - (((pusB big (us.take k)).length + lsz u.wide + hsz u : Nat) : Int)) = ((off - offU big us k : Nat) : Int) := by rw [w_u32 (by omega) (by omega)]; omega
  refine WC.cutM (fun R' Γ' H' => ∃ d', R' = [(0, .pointer (some ⟨pr, 0, none⟩)), (7, .pointer (some ⟨pu, k * 9, none⟩))] ∧ Γ = Γ' ∧ Byt Γ d' (u.body.drop (off - offU big us k)) ∧
     H' = (pr, cel (bufc (.pointer (some ⟨pd, 0, none⟩)) (.bool big) (ufmt pu (k * 9)) (.string sInfo) off d' .nilIface (rdp pd .nilIface k lu false ls (.pointer none))) 150) :: (pu, cel (p ++ (uqc (pusB big (us.take k)).length ((pusB big (us.take k)).length + lsz u.wide + hsz u) (.slice ad u.body.length cd) r u5 u.size u.vers u.wide [] ++ q)) 178) :: F) ?_ ?_
  · have r1 : Rd Γ ((pr, cel (x0 :: x1 :: x2 :: x3 :: x4 :: x5 :: x6 :: rdp pd .nilIface k lu false ls (.pointer none)) 150) :: (pu, cel (p ++ (uqc (pusB big (us.take k)).length ((pusB big (us.take k)).length + lsz u.wide + hsz u) (.slice ad u.body.length cd) r u5 u.size u.vers u.wide [] ++ q)) 178) :: F) pu (k * 9 + 1) (.int .u32 (((pusB big (us.take k)).length + lsz u.wide + hsz u : Nat) : Int)) := Rd.pre (k := 1) hP rfl (by omega)
    have r2 : Rd Γ ((pr, cel (x0 :: x1 :: x2 :: x3 :: x4 :: x5 :: x6 :: rdp pd .nilIface k lu false ls (.pointer none)) 150) :: (pu, cel (p ++ (uqc (pusB big (us.take k)).length ((pusB big (us.take k)).length + lsz u.wide + hsz u) (.slice ad u.body.length cd) r u5 u.size u.vers u.wide [] ++ q)) 178) :: F) pu (k * 9 + 2) (.slice ad u.body.length cd) := Rd.pre (k := 2) hP rfl (by omega)
    refine WC.draw 22 (.take 0 (.take 1 (.take 2 (.take 3 (.take 4 (.take 5 (.take 6 (.take 7 (.take 8 (.take 9 (.take 10 (.take 11 (.take 12 (.take 13 (.take 14 (.take 15 (.take 16 (.take 17 (.take 18 (.one 19 (.one 20 (.take 21 (.one 22 .done))))))))))))))))))))))) ((pr, _) :: (pu, _) :: F) mixed (by (repeat (first | exact trivial | refine ⟨⟨_, pk_⟩, ?_⟩ | exact subH_self _ | apply subH_cons)); (first | done | fail)) (by decide +kernel) ?_
    refine dx_ ?_
    rw [hw3]
    refine dx_ ?_
    have hord := hS.ord
    have hdr := hd.drop (off - offU big us k) (by omega)
    refine WL.call rfl Tryz.call68 rfl rfl (by exact (makeBuf_ok (off := off) (Rd.cons (Rd.cons hord)))) ?_
    rintro _ _ _ - ⟨rfl, rfl, rfl⟩
    refine dx_ ?_
    refine gx_ ?_
    exact WE.mid ⟨_, rfl, rfl, hdr, rfl⟩ sr_ sn_
  rintro _ _ _ ⟨d2, rfl, rfl, hd2, rfl⟩
  refine gx_ ?_
  have hbl : u.body.length = (ulebL a.code).length + (itexts its).length + l.length := by rw [hb, List.length_append, List.length_append]; omega
  have hTop : Top Γ (uctx big sr lin (pusB big (us.take k)).length u) u.vers u.abs ((pusB big (us.take k)).length + lsz u.wide + hsz u) (.slice ad u.body.length cd) r :=
    ⟨rfl, hz8, hdist, ⟨es, cm, him, hes⟩, a, its, l, by rw [← hb]; exact hd, hD, by omega⟩
  refine WL.call rfl Tryz.call69 rfl rfl (by exact (collectR_ok (pre := p) (q := q) (T := 178) (F := (pr, _) :: F) hG (Pick.there Pick.here) (by omega) hS.cons (.inr ⟨_, _, _, _, Pick.here, rfl⟩) hTop)) ?_
  rintro _ Γ1 _ hle ⟨rfl, u5', rfl⟩
  refine gx_ ?_
  refine WE.re (H2 := (pr, cel (bufc (.pointer (some ⟨pd, 0, none⟩)) (.bool big) (ufmt pu (k * 9)) (.string sInfo) off d2 .nilIface (rdp pd .nilIface k lu false ls (.pointer none))) 150) :: (pu, cel (p ++ uqc (pusB big (us.take k)).length ((pusB big (us.take k)).length + lsz u.wide + hsz u) (.slice ad u.body.length cd) r u5' u.size u.vers u.wide q) 178) :: F) sn_ ?_
  exact end_0 rfl hle ⟨rfl, _, d2, hback hle ⟨_, r, es, cm, u5', rfl, hd.mono hle, hle.imm _ _ him, hes.mono hle⟩, hd2.mono hle, rfl⟩
end Go.Proofs.YtdplhbmoidepgaaGreatDoor
namespace Go.Proofs.YtdplhbmoidepgaaGreatDoor
open Go Go.Sl
set_option maxRecDepth 10000
set_option maxHeartbeats 40000000

theorem maybeNext_ok {Γ : Env} {H F : List Blk} {pr : Nat} {dw ord fmt nm err : Value} {off : Nat} {d : Value} {l : List UInt8} {post : List Value} (hp : Pick H pr (cel (bufc dw ord fmt nm off d err post) 150) F) (hd : Byt Γ d l) (hl : 0 < l.length) :
   Spc Tryz.prog 85 #[.pointer (some ⟨pr, 0, none⟩)] Γ H (fun v Γ' H' => v = .tuple #[] ∧ Γ = Γ' ∧ H' = (pr, cel (bufc dw ord fmt nm off d err post) 150) :: F) := by
  obtain ⟨ad, cd, rfl, hcd, -⟩ := hd
  refine Spc.perm ?_ hp.perm
  refine Spc.body1 Tryz.func85 rfl Tryz.ntmps85 rfl ?_
  refine gz_ ?_
  refine WC.loop2 ?_
  refine gz_ ?_
  refine WC.draw 23 (.take 0 (.take 1 (.take 2 (.take 3 (.take 4 (.take 5 (.take 6 (.take 7 (.take 8 (.take 9 (.take 10 (.take 11 (.take 12 (.take 13 (.take 14 (.take 15 (.take 16 (.take 17 (.take 18 (.take 19 (.take 20 (.take 21 (.take 22 .done))))))))))))))))))))))) ((pr, _) :: []) mixed (by (repeat (first | exact trivial | refine ⟨⟨_, pk_⟩, ?_⟩ | exact subH_self _ | apply subH_cons)); (first | done | fail)) (by decide +kernel) ?_
  refine dz_ ?_
  rw [show (((l.length : Nat) : Int) == 0) = false from beq_eq_false_iff_ne.2 (by omega)]
  refine dz_ ?_
  refine gz_ ?_
  exact end_0 rfl (Env.le.rfl' _) ⟨rfl, rfl, rfl⟩
/-- Where an entry's next one stands, if this is told. -/
def sibO (its : List Itm) : Nat := match its.find? (isA 1) with
  | some x => (match x.fv with | .o n => n | _ => 0)
  | none => 0
theorem next_ok {Γ : Env} {H F : List Blk} {pr pd pu k off lso : Nat} {big lu lc : Bool} {sr lin : List UInt8} {us : List PU} {u : PU} {a : Abb} {its : List Itm} {l : List UInt8} {d cu : Value}
   (hG : Glob Γ) (hp : Pick H pr (cel (bufc (.pointer (some ⟨pd, 0, none⟩)) (.bool big) (ufmt pu (k * 9)) (.string sInfo) off d .nilIface (rdp pd .nilIface k lu lc (.int .u32 (lso : Int)) cu)) 150) F)
   (hd : Byt Γ d (ulebL a.code ++ (itexts its ++ l))) (hR : UnR Γ F big pd pu us) (hu : us[k]? = some u) (hS : Secs Γ F pd (uctx big sr lin (pusB big (us.take k)).length u)) (hz : u.size = 4 ∨ u.size = 8)
   (hdist : u.abs.Pairwise (fun a b => a.code ≠ b.code)) (hD : Die (uctx big sr lin (pusB big (us.take k)).length u) u.abs a its) (hsz : off + (ulebL a.code).length + (itexts its).length + l.length ≤ 2147483648) :
   Spc Tryz.prog 61 #[.pointer (some ⟨pr, 0, none⟩)] Γ H (fun v Γ' H' => ∃ pe d' cu', v = .tuple #[.pointer (some ⟨pe, 0, none⟩), .nilIface] ∧ EntR Γ' pe off a.tag a.ch its u.vers ∧ Byt Γ' d' l ∧
     H' = (pr, cel (bufc (.pointer (some ⟨pd, 0, none⟩)) (.bool big) (ufmt pu (k * 9)) (.string sInfo) (off + (ulebL a.code).length + (itexts its).length) d' .nilIface
       (rdp pd .nilIface k (a.tag == 17 || a.tag == 60) a.ch (.int .u32 ((if a.ch then sibO its else lso : Nat) : Int)) cu')) 150) :: F) := by
  refine Spc.perm ?_ hp.perm
  have hk := (List.getElem?_eq_some_iff.1 hu).1
  obtain ⟨dU, r, es, c, u5, hdU, him, hes, hrd⟩ := hR.cell hu
  obtain ⟨⟨vs, hs1, hs2⟩, ⟨vl, hl1, hl2⟩, ho, hsl, hll⟩ := hS
  have gsl := hR.sl
  have hpos : 0 < (ulebL a.code ++ (itexts its ++ l)).length := by have := ulebL_pos a.code; rw [List.length_append]; omega
  have hd0 := hd
  obtain ⟨ad, cd, rfl, hcd, -⟩ := hd
  have e9 : 0 + Int.toNat ((k : Nat) : Int) * 9 = k * 9 := by omega
  refine Spc.body1 Tryz.func61 rfl Tryz.ntmps61 rfl ?_
  refine gz_ ?_
  refine WL.call rfl Tryz.call85 rfl rfl (by exact (maybeNext_ok Pick.here hd0 hpos)) ?_
  rintro _ _ _ - ⟨rfl, rfl, rfl⟩
  refine gz_ ?_
  rw [show ((((ulebL a.code ++ (itexts its ++ l)).length : Nat) : Int) == 0) = false from beq_eq_false_iff_ne.2 (by omega)]
  refine gz_ ?_
  refine WC.draw 13 (.take 0 (.take 1 (.take 2 (.take 3 (.take 4 (.take 5 (.take 6 (.take 7 (.take 8 (.take 9 (.take 10 (.take 11 (.one 12 .done))))))))))))) ((pr, _) :: F) mixed (by (repeat (first | exact trivial | refine ⟨⟨_, pk_⟩, ?_⟩ | exact subH_self _ | apply subH_cons)); (first | done | fail)) (by decide +kernel) ?_
  refine dz_ ?_
  rw [e9]
  refine dz_ ?_
  refine gz_ ?_
  refine WC.draw 10 (.take 0 (.take 1 (.take 2 (.take 3 (.take 4 (.take 5 (.take 7 (.one 6 (.one 8 (.one 9 .done)))))))))) (([] : List Blk)) mixed (by (repeat (first | exact trivial | refine ⟨⟨_, pk_⟩, ?_⟩ | exact subH_self _ | apply subH_cons)); (first | done | fail)) (by decide +kernel) ?_
  refine dz_ ?_
  refine WL.call rfl Tryz.call86 rfl rfl (by exact (entry_ok (c := uctx big sr lin (pusB big (us.take k)).length u) hG Pick.here hd0 (hrd 0 _ rfl) (hrd 3 _ rfl) (hrd 5 _ rfl) (hrd 6 _ rfl) (hrd 7 _ rfl) him hes hdist hD.mem hD.ok hD.fs hD.okI hz hs1 hs2 hl1 hl2 ho hsl hll hsz hD.few)) ?_
  rintro _ Γ1 _ hle ⟨pe, d', rfl, hE, hd', rfl⟩
  refine dz_ ?_
  refine gz_ ?_
  have h1' : Γ1.cell pe (0 + 1) = _ := hE.tag
  have h2' : Γ1.cell pe (0 + 2) = _ := hE.ch
  refine gz_ ?_
  refine WC.cutM (fun R' Γ' H' => R' = [(0, .pointer (some ⟨pr, 0, none⟩)), (5, .pointer (some ⟨pe, 0, none⟩))] ∧ Γ1 = Γ' ∧ H' = (pr, cel (bufc (.pointer (some ⟨pd, 0, none⟩)) (.bool big) (ufmt pu (k * 9)) (.string sInfo) (off + (ulebL a.code).length + (itexts its).length) d' .nilIface (rdp pd .nilIface k false a.ch (.int .u32 ((if a.ch then sibO its else lso : Nat) : Int)) cu)) 150) :: F) ?_ ?_
  · cases hch : a.ch with
    | false =>
      refine gz_ ?_
      exact WE.mid ⟨rfl, rfl, rfl⟩ sr_ sn_
    | true =>
      refine gz_ ?_
      refine WL.call rfl Tryz.call62 rfl rfl (by exact (val_ok hE 1 hD.few)) ?_
      rintro v _ _ - ⟨rfl, rfl, hv⟩
      cases hf : its.find? (isA 1) with
      | none =>
        rw [hf] at hv
        simp only at hv
        subst hv
        rw [show sibO its = 0 by simp [sibO, hf]]
        refine gz_ ?_
        exact WE.mid ⟨rfl, rfl, rfl⟩ sr_ sn_
      | some x =>
        rw [hf] at hv
        obtain ⟨t, w, rfl, hFV⟩ := hv
        cases hx : x.fv with
        | o n =>
          rw [show sibO its = n by simp [sibO, hf, hx]]
          rw [hx] at hFV
          cases hFV
          refine gz_ ?_
          exact WE.mid ⟨rfl, rfl, rfl⟩ sr_ sn_
        | u n =>
          rw [show sibO its = 0 by simp [sibO, hf, hx]]
          rw [hx] at hFV
          cases hFV
          refine gz_ ?_
          exact WE.mid ⟨rfl, rfl, rfl⟩ sr_ sn_
        | i n =>
          rw [show sibO its = 0 by simp [sibO, hf, hx]]
          rw [hx] at hFV
          cases hFV
          refine gz_ ?_
          exact WE.mid ⟨rfl, rfl, rfl⟩ sr_ sn_
        | b n =>
          rw [show sibO its = 0 by simp [sibO, hf, hx]]
          rw [hx] at hFV
          cases hFV
          refine gz_ ?_
          exact WE.mid ⟨rfl, rfl, rfl⟩ sr_ sn_
        | s n =>
          rw [show sibO its = 0 by simp [sibO, hf, hx]]
          rw [hx] at hFV
          cases hFV
          refine gz_ ?_
          exact WE.mid ⟨rfl, rfl, rfl⟩ sr_ sn_
        | bs n =>
          rw [show sibO its = 0 by simp [sibO, hf, hx]]
          rw [hx] at hFV
          obtain ⟨w', hw', -⟩ := hFV
          cases hw'
          refine gz_ ?_
          exact WE.mid ⟨rfl, rfl, rfl⟩ sr_ sn_
  rintro _ _ _ ⟨rfl, rfl, rfl⟩
  refine gz_ ?_
  cases e17 : ((a.tag : Int) == 17) with
  | true =>
    have h17 := eq_of_beq e17
    have hlu : (a.tag == 17 || a.tag == 60) = true := by simp; omega
    refine gz_ ?_
    exact end_2 rfl rfl rfl hle ⟨pe, d', _, rfl, hE, hd', by rw [hlu]⟩
  | false =>
    have h17 : (a.tag : Int) ≠ 17 := fun h => by rw [h] at e17; cases e17
    refine gz_ ?_
    cases e60 : ((a.tag : Int) == 60) with
    | true =>
      have h60 := eq_of_beq e60
      have hlu : (a.tag == 17 || a.tag == 60) = true := by simp; omega
      refine gz_ ?_
      exact end_2 rfl rfl rfl hle ⟨pe, d', _, rfl, hE, hd', by rw [hlu]⟩
    | false =>
      have h60 : (a.tag : Int) ≠ 60 := fun h => by rw [h] at e60; cases e60
      have hlu : (a.tag == 17 || a.tag == 60) = false := by simp; omega
      refine gz_ ?_
      exact end_2 rfl rfl rfl hle ⟨pe, d', _, rfl, hE, hd', by rw [hlu]⟩
end Go.Proofs.YtdplhbmoidepgaaGreatDoor
namespace Go.Proofs.YtdplhbmoidepgaaGreatDoor
open Go Go.Sl
set_option maxRecDepth 10000
set_option maxHeartbeats 40000000

theorem codeOfN_ok {Γ : Env} {H : List Blk} : Spc Tryz.prog 32 #[.nilIface] Γ H (fun v Γ' H' => Γ = Γ' ∧ H = H' ∧ v = .int .i64 0) := by
  refine Spc.body1 Tryz.func32 rfl Tryz.ntmps32 rfl ?_
  refine gz_ ?_
  exact end_1 rfl rfl (Env.le.rfl' _) ⟨rfl, rfl, rfl⟩
theorem Secs.to {Γ : Env} {F : List Blk} {pd : Nat} {big : Bool} {sr lin : List UInt8} {b b' : Nat} {u u' : PU} (h : Secs Γ F pd (uctx big sr lin b u)) : Secs Γ F pd (uctx big sr lin b' u') := ⟨h.str, h.lin, h.ord, h.sl, h.ll⟩
theorem entryAt_ok {Γ : Env} {H F : List Blk} {pd pu k off b0 : Nat} {big : Bool} {sr lin : List UInt8} {us : List PU} {u u0 ux : PU} {cs : List Value} {a : Abb} {its : List Itm} {pre post : List UInt8}
   (hG : Glob Γ) (hq : Pick H pu (cel cs 178) F) (hcs : UQs Γ big 0 us cs) (hS : Secs Γ F pd (uctx big sr lin b0 ux)) (h17 : Rd Γ F pd 17 (.slice (some ⟨pu, 0, none⟩) us.length us.length))
   (hn : us.length ≤ 2147483647) (hall : (pusB big us).length < 2147483648) (hdist : ∀ u ∈ us, u.abs.Pairwise (fun a b => a.code ≠ b.code))
   (hu0 : us[0]? = some u0) (hT0 : PTop (uctx big sr lin 0 u0) u0) (hu : us[k]? = some u) (hT : PTop (uctx big sr lin (pusB big (us.take k)).length u) u)
   (hb : u.body = pre ++ (ulebL a.code ++ (itexts its ++ post))) (hoff : off = offU big us k + pre.length) (hD : Die (uctx big sr lin (pusB big (us.take k)).length u) u.abs a its) :
   Spc Tryz.prog 35 #[.pointer (some ⟨pd, 0, none⟩), .int .i64 (off : Int)] Γ H (fun v Γ' H' => ∃ pe cs', v = .tuple #[.pointer (some ⟨pe, 0, none⟩), .int .i64 0] ∧ EntR Γ' pe off a.tag a.ch its u.vers ∧ UQs Γ' big 0 us cs' ∧
     H' = (pu, cel cs' 178) :: F) := by
  refine Spc.perm ?_ hq.perm
  have hn0 : 0 < us.length := (List.getElem?_eq_some_iff.1 hu0).1
  have hk := (List.getElem?_eq_some_iff.1 hu).1
  obtain ⟨p, c0, q, rfl, hp0, ⟨d, r, es, cm, u5, rfl, hd, him, hes⟩, hback⟩ := hcs.get hu0
  have hp1 : p = [] := List.eq_nil_of_length_eq_zero (by omega)
  subst hp1
  have hdi0 := hdist u0 (List.mem_of_getElem? hu0)
  obtain ⟨hz8, a0, its0, l0, hb0, hD0⟩ := hT0
  have hsp := pusB_split big us 0
  have hdr0 := pusB_drop (big := big) hu0
  rw [hdr0, List.length_append, puB_length] at hsp
  have hblen : u0.body.length = (ulebL a0.code).length + (itexts its0).length + l0.length := by rw [hb0, List.length_append, List.length_append]; omega
  have hstep := offU_step (big := big) hu
  have hofg := offU_get (big := big) hu
  have hmono := pusB_take_mono (big := big) (us := us) (i := k + 1) (j := us.length) (by omega) (Nat.le_refl _)
  rw [List.take_length] at hmono
  have hlz := lsz_bd u.wide
  have hpos := ulebL_pos a.code
  have hbl : u.body.length = pre.length + ((ulebL a.code).length + ((itexts its).length + post.length)) := by rw [hb, List.length_append, List.length_append, List.length_append]
  have hd1 := hd
  rw [hb0] at hd1
  have e0 : 0 + (pusB big (us.take 0)).length = 0 := rfl
  rw [e0]
  rw [e0] at hback
  refine Spc.body2 Tryz.func35 rfl Tryz.ntmps35 rfl ?_
  refine gz_ ?_
  refine WL.call rfl Tryz.call33 rfl rfl (by exact (reader_ok (pu := pu) (c := uctx big sr lin 0 u0) (off1 := 0 + lsz u0.wide + hsz u0) (d := d) (r := r) (u5 := u5) (vers := u0.vers) (q := q) (n := us.length) hG Pick.here hS.to h17 hn0 ⟨rfl, hz8, hdi0, ⟨es, cm, him, hes⟩, a0, its0, l0, hd1, hD0, by omega⟩)) ?_
  rintro _ Γ1 _ hle1 ⟨pr, u5', rfl, rfl⟩
  refine gz_ ?_
  have hw1 : IntKind.u32.wrap (off : Int) = (off : Int) := w_u32 (by omega) (by omega)
  rw [hw1]
  refine gz_ ?_
  have hq1 : UQs Γ1 big 0 us ([] ++ (uqc 0 (0 + lsz u0.wide + hsz u0) d r u5' u0.size u0.vers u0.wide [] ++ q)) := hback hle1 ⟨d, r, es, cm, u5', rfl, hd.mono hle1, hle1.imm _ _ him, hes.mono hle1⟩
  refine WL.call rfl Tryz.call60 rfl rfl (by exact (seekAt_ok (hG.mono hle1) Pick.here Pick.here hq1 (hS.to.mono hle1) (h17.mono hle1) hn hall hu (by omega) (by omega) (hdist u (List.mem_of_getElem? hu)) hT)) ?_
  rintro _ Γ2 _ hle2 ⟨rfl, cs2, d2, hq2, hd2, rfl⟩
  rw [show off - offU big us k = pre.length from by omega, hb, List.drop_left] at hd2
  have hle12 := hle1.trans hle2
  refine gz_ ?_
  have hUR : UnR Γ2 ((pu, cel cs2 178) :: F) big pd pu us := ⟨(h17.mono hle12).cons, _, _, Pick.here, hq2⟩
  refine WL.call rfl Tryz.call61 rfl rfl (by exact (next_ok (sr := sr) (lin := lin) (hG.mono hle12) Pick.here hd2 hUR hu (hS.to.mono hle12).cons hT.size (hdist u (List.mem_of_getElem? hu)) hD (by omega))) ?_
  rintro _ Γ3 _ hle3 ⟨pe, d3, cu3, rfl, hE, hd3, rfl⟩
  refine gz_ ?_
  refine WL.call rfl Tryz.call32 rfl rfl (by exact codeOfN_ok) ?_
  rintro _ _ _ - ⟨rfl, rfl, rfl⟩
  refine gz_ ?_
  refine WE.drop (b := pr) pk_ ?_
  exact end_2 rfl rfl rfl (hle12.trans hle3) ⟨pe, cs2, rfl, hE, hq2.mono hle3, rfl⟩
end Go.Proofs.YtdplhbmoidepgaaGreatDoor
namespace Go.Proofs.YtdplhbmoidepgaaGreatDoor
open Go Go.Sl
set_option maxRecDepth 10000
set_option maxHeartbeats 40000000

abbrev sRanges : ByteArray := ⟨#[114, 97, 110, 103, 101, 115]⟩
/-- What a list's entry says ahead of version 5. -/
def topP (l : Lay) : Nat := if l.size = 4 then 4294967295 else 18446744073709551615
def loP (l : Lay) (p : Pie) : Nat := if p.kind = 1 then topP l else p.a
def hiP (p : Pie) : Nat := if p.kind = 1 then p.a else p.b
theorem pieT_2 {l : Lay} {p : Pie} (h : l.vers < 5) : pieT l p = fix (loP l p) l.size.toNat l.big ++ fix (hiP p) l.size.toNat l.big := by
  unfold pieT loP hiP topP; rw [if_pos h]; split <;> rfl
theorem piesT_drop {l : Lay} {ps : List Pie} {i : Nat} {p : Pie} (h : ps[i]? = some p) : piesT l (ps.drop i) = pieT l p ++ piesT l (ps.drop (i + 1)) := by
  have hlt := (List.getElem?_eq_some_iff.1 h).1
  rw [List.drop_eq_getElem_cons hlt, piesT, List.flatMap_cons]
  rw [List.getElem?_eq_getElem hlt] at h; injection h with h; rw [h]; rfl
theorem hiP_ne {l : Lay} {p : Pie} (h5 : l.vers < 5) (hop : OkPie l.vers p) (e0 : (loP l p : Int) = 0) : ((hiP p : Int) == 0) = false := by
  refine beq_eq_false_iff_ne.2 fun h => ?_
  have hlt' := hop.lt
  have hk0 := hop.k0
  have hkv := hop.kv
  unfold loP at e0
  unfold hiP at h
  by_cases h1 : p.kind = 1
  · rw [if_pos h1] at e0
    unfold topP at e0
    split at e0 <;> cases e0
  · rw [if_neg h1] at h e0
    have := hlt' (.inl (by omega))
    omega
theorem dwarf2_ok {Γ : Env} {H : List Blk} {pd pu ou k bs : Nat} {l : Lay} {ps : List Pie} {post rg : List UInt8} {vR : Value}
   (hz : l.size = 4 ∨ l.size = 8) (h5 : l.vers < 5) (h14 : Rd Γ H pd 14 (.bool l.big)) (h6 : Rd Γ H pd 6 vR) (hR : Byt Γ vR rg) (hsz : Rd Γ H pu (ou + 5) (.int .i64 ((l.size.toNat : Nat) : Int)))
   (hps : ∀ p ∈ ps, OkPie l.vers p) (hnp : ps.length ≤ 100) (hk : k ≤ rg.length) (hrg : rg.length < 2147483648) (hb : bs < 2147483648)
   (hat : rg.drop k = piesT l ps ++ (fix 0 l.size.toNat l.big ++ (fix 0 l.size.toNat l.big ++ post))) :
   Spc Tryz.prog 67 #[.pointer (some ⟨pd, 0, none⟩), .pointer (some ⟨pu, ou, none⟩), .int .u64 (bs : Int), .int .i64 (k : Int), nls] Γ H (fun v Γ' H' => Γ = Γ' ∧ ∃ vo Hs, v = .tuple #[vo, .nilIface] ∧
     Ow 2 vo (plcsL bs ps).length (pcells (plcsL bs ps)) Hs ∧ H' = Hs ++ H) := by
  obtain ⟨ad, cd, rfl, hcd, hA⟩ := id hR
  have hdr := hR.drop k hk
  have hzn : l.size.toNat = 4 ∨ l.size.toNat = 8 := by omega
  refine Spc.body5 Tryz.func67 rfl Tryz.ntmps67 rfl ?_
  refine gz_ ?_
  rw [show decide ((k : Int) < 0) = false from decide_eq_false (by omega)]
  refine gz_ ?_
  rw [show decide ((k : Int) > ((rg.length : Nat) : Int)) = false from decide_eq_false (by omega)]
  refine gz_ ?_
  have hw : IntKind.u32.wrap (k : Int) = (k : Int) := w_u32 (by omega) (by omega)
  rw [hw]
  refine gz_ ?_
  refine WL.call rfl Tryz.call68 rfl rfl (by exact (makeBuf_ok (off := k) h14)) ?_
  rintro _ _ _ - ⟨rfl, rfl, rfl⟩
  refine gz_ ?_
  (refine WL.alloc tab_ok rfl rfl ?_; intro pb)
  refine gz_ ?_
  have hlz : (rg.drop k).length = rg.length - k := List.length_drop ..
  refine WC.loopE (fun m R' Γ' H' => ∃ i b o d v out Hs, R' = [(0, .pointer (some ⟨pd, 0, none⟩)), (1, .pointer (some ⟨pu, ou, none⟩)), (2, .int .u64 ((b : Nat) : Int)), (4, v), (12, .pointer (some ⟨pb, 0, none⟩))] ∧ Γ = Γ' ∧
      H' = (pb, cel (bufc (.pointer (some ⟨pd, 0, none⟩)) (.bool l.big) (ufmt pu ou) (.string sRanges) o d .nilIface []) 148) :: (Hs ++ H) ∧ m = ps.length - i ∧ i ≤ ps.length ∧ b < 2147483648 ∧
      Byt Γ d (piesT l (ps.drop i) ++ (fix 0 l.size.toNat l.big ++ (fix 0 l.size.toNat l.big ++ post))) ∧ o + (piesT l (ps.drop i) ++ (fix 0 l.size.toNat l.big ++ (fix 0 l.size.toNat l.big ++ post))).length ≤ 2147483648 ∧
      Ow 2 v (out : List (Nat × Nat)).length (pcells out) Hs ∧ out.length ≤ i ∧ plcsL bs ps = out ++ plcsL b (ps.drop i))
    ⟨0, bs, k, _, _, [], [], rfl, rfl, rfl, rfl, Nat.zero_le _, hb, by rw [List.drop_zero, ← hat]; exact hdr, by rw [List.drop_zero, ← hat, hlz]; omega, Ow.nil, Nat.le_refl _, rfl⟩ sr_ sn_ ?_
  clear hlz hat hdr hcd hA hk
  rintro m R' Γ' H' ⟨i, b, o, d, v, out, Hs, rfl, rfl, rfl, rfl, hi, hb', hd, ho, how, hoi, hpl⟩
  have hsz' : ∀ {x : Blk}, Rd Γ (x :: (Hs ++ H)) pu (ou + 5) (.int .i64 ((l.size.toNat : Nat) : Int)) := fun {x} => hsz.app.cons
  have hd0 := hd
  obtain ⟨a1, c1, rfl, hc1, -⟩ := hd0
  have hl0 : ((piesT l (ps.drop i) ++ (fix 0 l.size.toNat l.big ++ (fix 0 l.size.toNat l.big ++ post))).length : Int) > 0 := by
    rw [List.length_append, List.length_append, fix_length]; omega
  generalize hN : (piesT l (ps.drop i) ++ (fix 0 l.size.toNat l.big ++ (fix 0 l.size.toNat l.big ++ post))).length = N at hd ho hl0 ⊢
  refine gz_ ?_
  refine WC.condT rfl (decide_eq_true hl0) ?_
  rcases Nat.lt_or_ge i ps.length with hlt | hge
  case inr =>
    have ei : i = ps.length := by omega
    subst ei
    rw [List.drop_length] at hd hN hpl
    simp only [piesT, List.flatMap_nil, List.nil_append] at hd hN
    rw [plcsL, List.append_nil] at hpl
    simp only [List.length_append, fix_length] at hN
    refine gz_ ?_
    refine WL.call rfl Tryz.call93 rfl rfl (by exact (buf_addr (k := 0) (s := l.size.toNat) hzn (by rcases hzn with h | h <;> rw [h] <;> decide) Pick.here hsz.app hd (by omega))) ?_
    rintro _ _ _ - ⟨rfl, rfl, d1, hd1, rfl⟩
    refine gz_ ?_
    refine WL.call rfl Tryz.call93 rfl rfl (by exact (buf_addr (k := 0) (s := l.size.toNat) hzn (by rcases hzn with h | h <;> rw [h] <;> decide) Pick.here hsz.app hd1 (by omega))) ?_
    rintro _ _ _ - ⟨rfl, rfl, d2, hd2, rfl⟩
    refine gz_ ?_
    refine WE.drop (b := pb) pk_ ?_
    rw [hpl]
    exact end_2 rfl rfl rfl (Env.le.rfl' _) ⟨rfl, v, Hs, rfl, how, rfl⟩
  case inl =>
    obtain ⟨p, hp⟩ : ∃ y, ps[i]? = some y := ⟨_, List.getElem?_eq_getElem hlt⟩
    have hop := hps p (List.mem_of_getElem? hp)
    have hpa := hop.a
    have hpb := hop.b
    have hdrp : ps.drop i = p :: ps.drop (i + 1) := by
      rw [List.drop_eq_getElem_cons hlt]
      rw [List.getElem?_eq_getElem hlt] at hp; injection hp with hp; rw [hp]
    rw [piesT_drop hp, pieT_2 h5, List.append_assoc, List.append_assoc] at hd hN
    rw [List.length_append, List.length_append, fix_length, fix_length] at hN
    have hlo : loP l p < 256 ^ l.size.toNat := by
      unfold loP topP
      rcases hz with h | h <;> rw [h] <;> split <;> simp <;> omega
    have hhi : hiP p < 256 ^ l.size.toNat := by
      unfold hiP
      rcases hz with h | h <;> rw [h] <;> split <;> simp <;> omega
    rw [hdrp] at hpl
    refine gz_ ?_
    refine WL.call rfl Tryz.call93 rfl rfl (by exact (buf_addr (k := loP l p) (s := l.size.toNat) hzn hlo Pick.here hsz.app hd (by omega))) ?_
    rintro _ _ _ - ⟨rfl, rfl, d1, hd1, rfl⟩
    refine gz_ ?_
    refine WL.call rfl Tryz.call93 rfl rfl (by exact (buf_addr (k := hiP p) (s := l.size.toNat) hzn hhi Pick.here hsz.app hd1 (by omega))) ?_
    rintro _ _ _ - ⟨rfl, rfl, d2, hd2, rfl⟩
    refine gs_ ?_
    refine WE.then_ ?_
    repeat refine WC.seq ?_
    refine WC.cutM (fun R' Γ' H' => R' = [(0, .pointer (some ⟨pd, 0, none⟩)), (1, .pointer (some ⟨pu, ou, none⟩)), (2, .int .u64 ((b : Nat) : Int)), (4, v), (12, .pointer (some ⟨pb, 0, none⟩)), (13, .int .u64 (loP l p : Int)), (14, .int .u64 (hiP p : Int)), (50, .bool false)] ∧ Γ = Γ' ∧
      H' = (pb, cel (bufc (.pointer (some ⟨pd, 0, none⟩)) (.bool l.big) (ufmt pu ou) (.string sRanges) (o + l.size.toNat + l.size.toNat) d2 .nilIface []) 148) :: (Hs ++ H)) ?_ ?_
    · cases e0 : ((loP l p : Int) == 0) with
      | false =>
        refine gz_ ?_
        rw [e0]
        refine gz_ ?_
        exact WE.mid ⟨rfl, rfl, rfl⟩ sr_ sn_
      | true =>
        have e0' := eq_of_beq e0
        have e2 : ((hiP p : Int) == 0) = false := hiP_ne h5 hop e0'
        refine gz_ ?_
        rw [e0]
        refine gz_ ?_
        rw [e2]
        refine gz_ ?_
        exact WE.mid ⟨rfl, rfl, rfl⟩ sr_ sn_
    rintro _ _ _ ⟨rfl, rfl, rfl⟩
    refine gz_ ?_
    refine WL.call rfl Tryz.call94 rfl rfl (by exact (unit_addrsize (Rd.cons (Rd.app hsz)))) ?_
    rintro _ _ _ - ⟨rfl, rfl, rfl⟩
    refine gz_ ?_
    have hsh : IntKind.u64.wrap (IntKind.i64.wrap (IntKind.i64.wrap (8 - ((l.size.toNat : Nat) : Int)) * 8)) = ((64 - 8 * l.size.toNat : Nat) : Int) := by
      rcases hzn with h | h <;> rw [h] <;> rfl
    rw [hsh]
    refine gz_ ?_
    have hsr : (18446744073709551615 : Int).fdiv (2 ^ min (Int.toNat ((64 - 8 * l.size.toNat : Nat) : Int)) IntKind.u64.bits) = ((topP l : Nat) : Int) := by
      unfold topP
      rcases hz with h | h <;> rw [h] <;> rfl
    rw [hsr]
    have hwi : plcsL b (p :: ps.drop (i + 1)) = if p.kind = 1 then plcsL p.a (ps.drop (i + 1)) else (m64 (b + p.a), m64 (b + p.b)) :: plcsL b (ps.drop (i + 1)) := by
      have hk0 := hop.k0
      have hkv := hop.kv
      by_cases h1 : p.kind = 1
      · simp [plcsL, h1]
      · have h0 : p.kind = 0 := by omega
        simp [plcsL, h0]
    rw [hwi] at hpl
    by_cases h1 : p.kind = 1
    · have e1 : loP l p = topP l := by unfold loP; rw [if_pos h1]
      have e2 : hiP p = p.a := by unfold hiP; rw [if_pos h1]
      rw [if_pos h1] at hpl
      rw [e1, e2]
      refine WC.condT rfl (beq_iff_eq.2 rfl) ?_
      refine gz_ ?_
      exact WE.again ⟨i + 1, p.a, o + l.size.toNat + l.size.toNat, d2, v, out, Hs, rfl, rfl, rfl, rfl, hlt, hpa, hd2, by omega, how, by omega, hpl⟩ (by omega) sr_ sn_
    · have e1 : loP l p = p.a := by unfold loP; rw [if_neg h1]
      have e2 : hiP p = p.b := by unfold hiP; rw [if_neg h1]
      rw [if_neg h1] at hpl
      rw [e1, e2]
      refine WC.condF rfl (beq_eq_false_iff_ne.2 (by unfold topP; split <;> omega)) ?_
      refine gz_ ?_
      rw [show IntKind.u64.wrap ((b : Int) + (p.a : Int)) = ((m64 (b + p.a) : Nat) : Int) from by rw [← wrap_m64]; rfl]
      rw [show IntKind.u64.wrap ((b : Int) + (p.b : Int)) = ((m64 (b + p.b) : Nat) : Int) from by rw [← wrap_m64]; rfl]
      refine WL.buildArr tab_ok rfl rfl rfl rfl rfl spi_ rfl ?_
      (refine WL.lit tab_ok rfl rfl rfl rfl rfl rfl rfl spi_ rfl ?_; intro bl)
      refine WL.append tab_ok rfl rfl rfl rfl rfl rfl rfl rfl how tk_ ((Ow.lit (s := 2) (b := bl) (k := 1) (l := [.int .u64 ((m64 (b + p.a) : Nat) : Int), .int .u64 ((m64 (b + p.b) : Nat) : Int)]) (T := 105) rfl).src tab_ok rfl (Tk.here (Hs := [(bl, _)])) (fun q hq => by simp at hq; rcases hq with rfl | rfl <;> rfl)) (by omega) (by omega) (fun v2 Hs2 how2 => ?_)
      refine gz_ ?_
      have how3 : Ow 2 v2 (out ++ [(m64 (b + p.a), m64 (b + p.b))]).length (pcells (out ++ [(m64 (b + p.a), m64 (b + p.b))])) Hs2 := by rw [List.length_append, pcells_append]; exact how2
      exact WE.again ⟨i + 1, b, o + l.size.toNat + l.size.toNat, d2, v2, out ++ [(m64 (b + p.a), m64 (b + p.b))], Hs2, rfl, rfl, rfl, rfl, hlt, hb', hd2, by omega, how3, by rw [List.length_append]; simp only [List.length_cons, List.length_nil]; omega, by rw [hpl, List.append_assoc]; rfl⟩ (by omega) sr_ sn_
end Go.Proofs.YtdplhbmoidepgaaGreatDoor
namespace Go.Proofs.YtdplhbmoidepgaaGreatDoor
open Go Go.Sl
set_option maxRecDepth 10000
set_option maxHeartbeats 40000000

abbrev sRnglists : ByteArray := ⟨#[114, 110, 103, 108, 105, 115, 116, 115]⟩
theorem dwarf5_ok {Γ : Env} {H : List Blk} {pd pu ou pe eo tag k bs : Nat} {ch : Bool} {its : List Itm} {vers : Int} {l : Lay} {ps : List Pie} {post rg : List UInt8} {vR : Value}
   (hz : l.size = 4 ∨ l.size = 8) (h5 : 5 ≤ l.vers) (h14 : Rd Γ H pd 14 (.bool l.big)) (h6 : Rd Γ H pd 11 vR) (hR : Byt Γ vR rg) (hsz : Rd Γ H pu (ou + 5) (.int .i64 ((l.size.toNat : Nat) : Int)))
   (hE : EntR Γ pe eo tag ch its vers) (hfew : its.length < 2147483648)
   (hps : ∀ p ∈ ps, OkPie l.vers p) (hnp : ps.length ≤ 100) (hk : k ≤ rg.length) (hrg : rg.length < 2147483648) (hb : bs < 2147483648)
   (hat : rg.drop k = piesT l ps ++ (0 :: post)) :
   Spc Tryz.prog 66 #[.pointer (some ⟨pd, 0, none⟩), .pointer (some ⟨pu, ou, none⟩), .pointer (some ⟨pe, 0, none⟩), .int .u64 (bs : Int), .int .i64 (k : Int), nls] Γ H (fun v Γ' H' => Γ = Γ' ∧ ∃ vo Hs, v = .tuple #[vo, .nilIface] ∧
     Ow 2 vo (plcsL bs ps).length (pcells (plcsL bs ps)) Hs ∧ H' = Hs ++ H) := by
  obtain ⟨ad, cd, rfl, hcd, hA⟩ := id hR
  have hdr := hR.drop k hk
  have hzn : l.size.toNat = 4 ∨ l.size.toNat = 8 := by omega
  refine Spc.body6 Tryz.func66 rfl Tryz.ntmps66 rfl ?_
  refine gz_ ?_
  rw [show decide ((k : Int) < 0) = false from decide_eq_false (by omega)]
  refine gz_ ?_
  rw [show decide ((k : Int) > ((rg.length : Nat) : Int)) = false from decide_eq_false (by omega)]
  refine gs_ ?_
  refine WC.condF rfl rfl ?_
  refine WC.skip ?_
  refine WE.then_ ?_
  repeat refine WC.seq ?_
  refine WC.region ?_
  refine gs_ ?_
  refine WE.then_ ?_
  refine WC.seq ?_
  refine WC.cutM (fun R' Γ' H' => R' = [(0, .pointer (some ⟨pd, 0, none⟩)), (1, .pointer (some ⟨pu, ou, none⟩)), (3, .int .u64 (bs : Int)), (4, .int .i64 (k : Int)), (5, nls)] ∧ Γ = Γ' ∧ H = H') ?_ ?_
  · refine gz_ ?_
    refine WL.call rfl Tryz.call62 rfl rfl (by exact (val_ok hE 115 hfew)) ?_
    rintro v _ _ - ⟨rfl, rfl, hv⟩
    cases hf : its.find? (isA 115) with
    | none =>
      rw [hf] at hv
      simp only at hv
      subst hv
      refine gz_ ?_
      exact WE.mid ⟨rfl, rfl, rfl⟩ sr_ (fun _ h => h)
    | some x =>
      rw [hf] at hv
      obtain ⟨t, w, rfl, hFV⟩ := hv
      cases hx : x.fv with
      | bs n =>
        rw [hx] at hFV
        obtain ⟨w', hw', -⟩ := hFV
        cases hw'
        refine gz_ ?_
        exact WE.mid ⟨rfl, rfl, rfl⟩ sr_ (fun _ h => h)
      | _ =>
        rw [hx] at hFV
        cases hFV
        refine gz_ ?_
        exact WE.mid ⟨rfl, rfl, rfl⟩ sr_ (fun _ h => h)
  rintro _ _ _ ⟨rfl, rfl, rfl⟩
  refine gz_ ?_
  refine WL.call rfl Tryz.call68 rfl rfl (by exact (makeBuf_ok (off := 0) h14)) ?_
  rintro _ _ _ - ⟨rfl, rfl, rfl⟩
  refine gz_ ?_
  (refine WL.alloc tab_ok rfl rfl ?_; intro pb)
  refine gz_ ?_
  have hlz : (rg.drop k).length = rg.length - k := List.length_drop ..
  have hR2 : Byt Γ (.slice ad rg.length cd) (rg.take k ++ rg.drop k) := by rw [List.take_append_drop]; exact hR
  have hlk : (rg.take k).length = k := by rw [List.length_take]; omega
  have hsk := buf_skip (p := pb) (dw := .pointer (some ⟨pd, 0, none⟩)) (fmt := ufmt pu ou) (nm := .string sRnglists) (err := .nilIface) (off := 0) (post := []) (T := 148) (ord := .bool l.big) (F := H) Pick.here hR2 (by omega)
  rw [hlk, Nat.zero_add] at hsk
  refine WL.call rfl Tryz.call89 rfl rfl (by exact hsk) ?_
  rintro _ _ _ - ⟨rfl, rfl, d0, hd0, rfl⟩
  refine gz_ ?_
  refine WC.loopE (fun m R' Γ' H' => ∃ i b o d v out Hs, R' = [(0, .pointer (some ⟨pd, 0, none⟩)), (1, .pointer (some ⟨pu, ou, none⟩)), (3, .int .u64 ((b : Nat) : Int)), (5, v), (15, .pointer (some ⟨pb, 0, none⟩))] ∧ Γ = Γ' ∧
      H' = (pb, cel (bufc (.pointer (some ⟨pd, 0, none⟩)) (.bool l.big) (ufmt pu ou) (.string sRnglists) o d .nilIface []) 148) :: (Hs ++ H) ∧ m = ps.length - i ∧ i ≤ ps.length ∧ b < 2147483648 ∧
      Byt Γ d (piesT l (ps.drop i) ++ (0 :: post)) ∧ o + (piesT l (ps.drop i) ++ (0 :: post)).length ≤ 2147483648 ∧
      Ow 2 v (out : List (Nat × Nat)).length (pcells out) Hs ∧ out.length ≤ i ∧ plcsL bs ps = out ++ plcsL b (ps.drop i))
    ⟨0, bs, k, _, _, [], [], rfl, rfl, rfl, rfl, Nat.zero_le _, hb, by rw [List.drop_zero, ← hat]; exact hd0, by rw [List.drop_zero, ← hat, hlz]; omega, Ow.nil, Nat.le_refl _, rfl⟩ sr_ sn_ ?_
  clear hlz hat hdr hcd hA hk hsk hlk hR2 hd0 d0
  rintro m R' Γ' H' ⟨i, b, o, d, v, out, Hs, rfl, rfl, rfl, rfl, hi, hb', hd, ho, how, hoi, hpl⟩
  generalize hN : (piesT l (ps.drop i) ++ (0 :: post)).length = N at hd ho
  rcases Nat.lt_or_ge i ps.length with hlt | hge
  case inr =>
    have ei : i = ps.length := by omega
    subst ei
    rw [List.drop_length] at hd hN hpl
    simp only [piesT, List.flatMap_nil, List.nil_append] at hd hN
    rw [plcsL, List.append_nil] at hpl
    simp only [List.length_cons] at hN
    refine gz_ ?_
    refine WL.call rfl Tryz.call90 rfl rfl (by exact (buf_uint8 Pick.here hd (by omega))) ?_
    rintro _ _ _ - ⟨rfl, rfl, d0, hd0, rfl⟩
    rw [show ((0 : UInt8).toNat : Int) = 0 from rfl]
    refine gz_ ?_
    refine WE.drop (b := pb) pk_ ?_
    rw [hpl]
    exact end_2 rfl rfl rfl (Env.le.rfl' _) ⟨rfl, v, Hs, rfl, how, rfl⟩
  case inl =>
    obtain ⟨p, hp⟩ : ∃ y, ps[i]? = some y := ⟨_, List.getElem?_eq_getElem hlt⟩
    have hop := hps p (List.mem_of_getElem? hp)
    have hpa := hop.a
    have hpb := hop.b
    have hk0 := hop.k0
    have hk3 := hop.k3
    have hdrp : ps.drop i = p :: ps.drop (i + 1) := by
      rw [List.drop_eq_getElem_cons hlt]
      rw [List.getElem?_eq_getElem hlt] at hp; injection hp with hp; rw [hp]
    rw [piesT_drop hp] at hd hN
    rw [hdrp] at hpl
    obtain ⟨kd, pa, pb'⟩ := p
    simp only at hpa hpb hk0 hk3
    have hv5 : ¬ l.vers < 5 := by omega
    refine gz_ ?_
    have hkd : kd = 0 ∨ kd = 1 ∨ kd = 2 ∨ kd = 3 := by omega
    rcases hkd with rfl | rfl | rfl | rfl
    · have e : pieT l ⟨0, pa, pb'⟩ = 4 :: (ulebL pa ++ ulebL pb') := by simp [pieT, hv5]
      rw [e] at hd hN
      simp only [List.cons_append, List.append_assoc] at hd hN
      simp only [List.length_cons, List.length_append] at hN
      refine WL.call rfl Tryz.call90 rfl rfl (by exact (buf_uint8 Pick.here hd (by omega))) ?_
      rintro _ _ _ - ⟨rfl, rfl, d0, hd0, rfl⟩
      rw [show ((4 : UInt8).toNat : Int) = 4 from rfl]
      refine gz_ ?_
      refine WL.call rfl Tryz.call91 rfl rfl (by exact (buf_uint (bs := ulebL pa) Pick.here hd0 (ulebL_ok pa).1 (ulebL_len10 (by omega)) (by omega))) ?_
      rintro _ _ _ - ⟨rfl, rfl, d1, hd1, rfl⟩
      rw [show lebV (ulebL pa) % 2 ^ 64 = pa from by rw [(ulebL_ok pa).2]; omega]
      refine gz_ ?_
      refine WL.call rfl Tryz.call91 rfl rfl (by exact (buf_uint (bs := ulebL pb') Pick.here hd1 (ulebL_ok pb').1 (ulebL_len10 (by omega)) (by omega))) ?_
      rintro _ _ _ - ⟨rfl, rfl, d2, hd2, rfl⟩
      rw [show lebV (ulebL pb') % 2 ^ 64 = pb' from by rw [(ulebL_ok pb').2]; omega]
      refine gz_ ?_
      rw [show IntKind.u64.wrap ((b : Int) + (pa : Int)) = ((m64 (b + pa) : Nat) : Int) from by rw [← wrap_m64]; rfl]
      rw [show IntKind.u64.wrap ((b : Int) + (pb' : Int)) = ((m64 (b + pb') : Nat) : Int) from by rw [← wrap_m64]; rfl]
      refine WL.buildArr tab_ok rfl rfl rfl rfl rfl spi_ rfl ?_
      (refine WL.lit tab_ok rfl rfl rfl rfl rfl rfl rfl spi_ rfl ?_; intro bl)
      refine WL.append tab_ok rfl rfl rfl rfl rfl rfl rfl rfl how tk_ ((Ow.lit (s := 2) (b := bl) (k := 1) (l := [.int .u64 ((m64 (b + pa) : Nat) : Int), .int .u64 ((m64 (b + pb') : Nat) : Int)]) (T := 105) rfl).src tab_ok rfl (Tk.here (Hs := [(bl, _)])) (fun q hq => by simp at hq; rcases hq with rfl | rfl <;> rfl)) (by omega) (by omega) (fun v2 Hs2 how2 => ?_)
      refine gz_ ?_
      have how3 : Ow 2 v2 (out ++ [(m64 (b + pa), m64 (b + pb'))]).length (pcells (out ++ [(m64 (b + pa), m64 (b + pb'))])) Hs2 := by rw [List.length_append, pcells_append]; exact how2
      exact WE.again ⟨i + 1, b, o + 1 + (ulebL pa).length + (ulebL pb').length, d2, v2, out ++ [(m64 (b + pa), m64 (b + pb'))], Hs2, rfl, rfl, rfl, rfl, hlt, hb', hd2, by simp only [List.length_cons, List.length_append]; omega, how3, by rw [List.length_append]; simp only [List.length_cons, List.length_nil]; omega, by rw [hpl, List.append_assoc]; simp [plcsL]⟩ (by omega) sr_ sn_
    · have e : pieT l ⟨1, pa, pb'⟩ = 5 :: fix pa l.size.toNat l.big := by simp [pieT, hv5]
      rw [e] at hd hN
      simp only [List.cons_append, List.append_assoc] at hd hN
      simp only [List.length_cons, List.length_append, fix_length] at hN
      refine WL.call rfl Tryz.call90 rfl rfl (by exact (buf_uint8 Pick.here hd (by omega))) ?_
      rintro _ _ _ - ⟨rfl, rfl, d0, hd0, rfl⟩
      rw [show ((5 : UInt8).toNat : Int) = 5 from rfl]
      refine gz_ ?_
      refine WL.call rfl Tryz.call93 rfl rfl (by exact (buf_addr (k := pa) (s := l.size.toNat) hzn (by rcases hzn with h | h <;> rw [h] <;> simp <;> omega) Pick.here hsz.app hd0 (by omega))) ?_
      rintro _ _ _ - ⟨rfl, rfl, d2, hd2, rfl⟩
      refine gz_ ?_
      exact WE.again ⟨i + 1, pa, o + 1 + l.size.toNat, d2, v, out, Hs, rfl, rfl, rfl, rfl, hlt, hpa, hd2, by simp only [List.length_cons, List.length_append]; omega, how, by omega, by rw [hpl]; simp [plcsL]⟩ (by omega) sr_ sn_
    · have e : pieT l ⟨2, pa, pb'⟩ = 6 :: (fix pa l.size.toNat l.big ++ fix pb' l.size.toNat l.big) := by simp [pieT, hv5]
      rw [e] at hd hN
      simp only [List.cons_append, List.append_assoc] at hd hN
      simp only [List.length_cons, List.length_append, fix_length] at hN
      refine WL.call rfl Tryz.call90 rfl rfl (by exact (buf_uint8 Pick.here hd (by omega))) ?_
      rintro _ _ _ - ⟨rfl, rfl, d0, hd0, rfl⟩
      rw [show ((6 : UInt8).toNat : Int) = 6 from rfl]
      refine gz_ ?_
      refine WL.call rfl Tryz.call93 rfl rfl (by exact (buf_addr (k := pa) (s := l.size.toNat) hzn (by rcases hzn with h | h <;> rw [h] <;> simp <;> omega) Pick.here hsz.app hd0 (by omega))) ?_
      rintro _ _ _ - ⟨rfl, rfl, d1, hd1, rfl⟩
      refine gz_ ?_
      refine WL.call rfl Tryz.call93 rfl rfl (by exact (buf_addr (k := pb') (s := l.size.toNat) hzn (by rcases hzn with h | h <;> rw [h] <;> simp <;> omega) Pick.here hsz.app hd1 (by omega))) ?_
      rintro _ _ _ - ⟨rfl, rfl, d2, hd2, rfl⟩
      refine gz_ ?_
      refine WL.buildArr tab_ok rfl rfl rfl rfl rfl spi_ rfl ?_
      (refine WL.lit tab_ok rfl rfl rfl rfl rfl rfl rfl spi_ rfl ?_; intro bl)
      refine WL.append tab_ok rfl rfl rfl rfl rfl rfl rfl rfl how tk_ ((Ow.lit (s := 2) (b := bl) (k := 1) (l := [.int .u64 ((pa : Nat) : Int), .int .u64 ((pb' : Nat) : Int)]) (T := 105) rfl).src tab_ok rfl (Tk.here (Hs := [(bl, _)])) (fun q hq => by simp at hq; rcases hq with rfl | rfl <;> rfl)) (by omega) (by omega) (fun v2 Hs2 how2 => ?_)
      refine gz_ ?_
      have how3 : Ow 2 v2 (out ++ [(pa, pb')]).length (pcells (out ++ [(pa, pb')])) Hs2 := by rw [List.length_append, pcells_append]; exact how2
      exact WE.again ⟨i + 1, b, o + 1 + l.size.toNat + l.size.toNat, d2, v2, out ++ [(pa, pb')], Hs2, rfl, rfl, rfl, rfl, hlt, hb', hd2, by simp only [List.length_cons, List.length_append]; omega, how3, by rw [List.length_append]; simp only [List.length_cons, List.length_nil]; omega, by rw [hpl, List.append_assoc]; simp [plcsL]⟩ (by omega) sr_ sn_
    · have e : pieT l ⟨3, pa, pb'⟩ = 7 :: (fix pa l.size.toNat l.big ++ ulebL pb') := by simp [pieT, hv5]
      rw [e] at hd hN
      simp only [List.cons_append, List.append_assoc] at hd hN
      simp only [List.length_cons, List.length_append, fix_length] at hN
      refine WL.call rfl Tryz.call90 rfl rfl (by exact (buf_uint8 Pick.here hd (by omega))) ?_
      rintro _ _ _ - ⟨rfl, rfl, d0, hd0, rfl⟩
      rw [show ((7 : UInt8).toNat : Int) = 7 from rfl]
      refine gz_ ?_
      refine WL.call rfl Tryz.call93 rfl rfl (by exact (buf_addr (k := pa) (s := l.size.toNat) hzn (by rcases hzn with h | h <;> rw [h] <;> simp <;> omega) Pick.here hsz.app hd0 (by omega))) ?_
      rintro _ _ _ - ⟨rfl, rfl, d1, hd1, rfl⟩
      refine gz_ ?_
      refine WL.call rfl Tryz.call91 rfl rfl (by exact (buf_uint (bs := ulebL pb') Pick.here hd1 (ulebL_ok pb').1 (ulebL_len10 (by omega)) (by omega))) ?_
      rintro _ _ _ - ⟨rfl, rfl, d2, hd2, rfl⟩
      rw [show lebV (ulebL pb') % 2 ^ 64 = pb' from by rw [(ulebL_ok pb').2]; omega]
      refine gz_ ?_
      rw [show IntKind.u64.wrap ((pa : Int) + (pb' : Int)) = ((m64 (pa + pb') : Nat) : Int) from by rw [← wrap_m64]; rfl]
      refine WL.buildArr tab_ok rfl rfl rfl rfl rfl spi_ rfl ?_
      (refine WL.lit tab_ok rfl rfl rfl rfl rfl rfl rfl spi_ rfl ?_; intro bl)
      refine WL.append tab_ok rfl rfl rfl rfl rfl rfl rfl rfl how tk_ ((Ow.lit (s := 2) (b := bl) (k := 1) (l := [.int .u64 ((pa : Nat) : Int), .int .u64 ((m64 (pa + pb') : Nat) : Int)]) (T := 105) rfl).src tab_ok rfl (Tk.here (Hs := [(bl, _)])) (fun q hq => by simp at hq; rcases hq with rfl | rfl <;> rfl)) (by omega) (by omega) (fun v2 Hs2 how2 => ?_)
      refine gz_ ?_
      have how3 : Ow 2 v2 (out ++ [(pa, m64 (pa + pb'))]).length (pcells (out ++ [(pa, m64 (pa + pb'))])) Hs2 := by rw [List.length_append, pcells_append]; exact how2
      exact WE.again ⟨i + 1, b, o + 1 + l.size.toNat + (ulebL pb').length, d2, v2, out ++ [(pa, m64 (pa + pb'))], Hs2, rfl, rfl, rfl, rfl, hlt, hb', hd2, by simp only [List.length_cons, List.length_append]; omega, how3, by rw [List.length_append]; simp only [List.length_cons, List.length_nil]; omega, by rw [hpl, List.append_assoc]; simp [plcsL]⟩ (by omega) sr_ sn_
end Go.Proofs.YtdplhbmoidepgaaGreatDoor
