/- unitOf, top, the closure of ListText, listsHead. ListText. spanAttrs. Spanned. Spanned, the walk. The plain law: every entry of every unit is one that the package reads. -/
import Derived.Test.YtdplhbmoidepgaaGreatDoorH2
namespace Go.Proofs.YtdplhbmoidepgaaGreatDoor
open Go Go.Sl
set_option maxRecDepth 10000
set_option maxHeartbeats 40000000

theorem unitOf_ok {Γ : Env} {H : List Blk} {l : Lay} {a : Option Addr} {n cap : Nat} :
   Spc Tryz.prog 30 #[layV l, .slice a n cap] Γ H (fun v Γ' H' => Γ = Γ' ∧ H = H' ∧ v = .agg #[.int .i64 l.vers, .bool l.wide, .int .i64 l.size, .slice a n cap]) := by
  refine Spc.body2 Tryz.func30 rfl Tryz.ntmps30 rfl ?_
  refine WC.seq ?_
  refine WC.region ?_
  (refine WL.box rfl spi_ rfl ?_; intro b2)
  (refine WL.alloc tab_ok rfl rfl ?_; intro b4)
  refine gz_ ?_
  refine WE.re (H2 := (b4, cel [.int .i64 l.vers, .bool l.wide, .int .i64 l.size, .slice a n cap] 58) :: H) sn_ ?_
  exact end_c tab_ok rfl rfl rfl rfl Pick.here rfl (Env.le.rfl' _) ⟨rfl, rfl, rfl⟩
theorem top_ok {Γ : Env} {H : List Blk} {l : Lay} :
   Spc Tryz.prog 49 #[layV l] Γ H (fun v Γ' H' => Γ = Γ' ∧ H = H' ∧ v = .int .u64 ((if l.size = 4 then 4294967295 else 18446744073709551615 : Nat) : Int)) := by
  refine Spc.body1 Tryz.func49 rfl Tryz.ntmps49 rfl ?_
  refine WC.seq ?_
  refine WC.region ?_
  (refine WL.box rfl spi_ rfl ?_; intro b1)
  refine gz_ ?_
  by_cases h : l.size = 4
  · refine WC.condT rfl (beq_iff_eq.2 h) ?_
    refine gz_ ?_
    refine WE.drop (b := b1) pk_ ?_
    exact end_1 rfl rfl (Env.le.rfl' _) ⟨rfl, rfl, by rw [if_pos h]; rfl⟩
  · refine WC.condF rfl (beq_eq_false_iff_ne.2 h) ?_
    refine gz_ ?_
    refine WE.drop (b := b1) pk_ ?_
    exact end_1 rfl rfl (Env.le.rfl' _) ⟨rfl, rfl, by rw [if_neg h]; rfl⟩
theorem addr_ok {Γ : Env} {H Ho F : List Blk} {l : Lay} {po pl : Nat} {vo : Value} {out : List UInt8} {n : Nat} (hz : l.size = 4 ∨ l.size = 8) (hn : n < 18446744073709551616)
   (hp : H.Perm ((po, cel [vo] 29) :: (pl, cel [.int .i64 l.vers, .bool l.wide, .int .i64 l.size, .bool l.big, .bool l.far] 23) :: (Ho ++ F))) (hvo : Ow 1 vo out.length (bytesV out) Ho) (ho : out.length < 2147483648) :
   Spc Tryz.prog 48 #[.int .u64 (n : Int), .pointer (some ⟨po, 0, none⟩), .pointer (some ⟨pl, 0, none⟩)] Γ H (fun v Γ' H' => v = .tuple #[] ∧ Γ = Γ' ∧ ∃ vo' Ho', Ow 1 vo' (out ++ fix n l.size.toNat l.big).length (bytesV (out ++ fix n l.size.toNat l.big)) Ho' ∧
     H' = (po, cel [vo'] 29) :: (pl, cel [.int .i64 l.vers, .bool l.wide, .int .i64 l.size, .bool l.big, .bool l.far] 23) :: (Ho' ++ F)) := by
  obtain ⟨ao, co, rfl⟩ := Ow.shape hvo
  have hs : (l.size : Int) = ((l.size.toNat : Nat) : Int) := by omega
  refine Spc.perm ?_ hp
  refine Spc.body3 Tryz.func48 rfl Tryz.ntmps48 rfl ?_
  refine WC.draw 8 (.take 0 (.take 1 (.take 2 (.take 3 (.take 4 (.take 5 (.one 6 (.one 7 (.one 8 .done))))))))) ((po, _) :: (pl, _) :: []) mixed (by (repeat (first | exact trivial | refine ⟨⟨_, pk_⟩, ?_⟩ | exact subH_self _ | apply subH_cons)); (first | done | fail)) (by decide +kernel) ?_
  refine dz_ ?_
  rw [hs]
  refine WL.call rfl Tryz.call46 rfl rfl (by exact (fixed_ok (n := n) (s := l.size.toNat) (big := l.big) hn (by omega))) ?_
  rintro r2 _ _ - ⟨rfl, H2, how2, rfl⟩
  refine dz_ ?_
  refine WL.append tab_ok rfl rfl rfl rfl rfl rfl rfl rfl hvo tk_ (how2.src tab_ok rfl tk_ one_bytes) (by omega) (by omega) (fun v3 Hs3 how3 => ?_)
  rw [← bytesV_append] at how3
  have how4 := how3.to (l' := out ++ fix n l.size.toNat l.big) rfl
  obtain ⟨a9, c9, rfl⟩ := Ow.shape how4
  refine dz_ ?_
  refine gz_ ?_
  rw [← hs]
  refine WE.re (H2 := (po, cel [.slice a9 (out ++ fix n l.size.toNat l.big).length c9] 29) :: (pl, cel [.int .i64 l.vers, .bool l.wide, .int .i64 l.size, .bool l.big, .bool l.far] 23) :: (Hs3 ++ F)) sn_ ?_
  exact end_0 rfl (Env.le.rfl' _) ⟨rfl, rfl, _, Hs3, how4, rfl⟩
theorem listsHead_ok {Γ : Env} {H Hb F : List Blk} {l : Lay} {vb : Value} {body : List UInt8} (hz : l.size = 4 ∨ l.size = 8) (how : Ow 1 vb body.length (bytesV body) Hb) (hT : Tk H Hb F) (hl : body.length < 1000000) :
   Spc Tryz.prog 26 #[layV l, vb] Γ H (fun v Γ' H' => Γ = Γ' ∧ ∃ Hs, Ow 1 v (headT l body).length (bytesV (headT l body)) Hs ∧ H' = Hs ++ H) := by
  obtain ⟨ab, cb, rfl⟩ := Ow.shape how
  have hw8 : IntKind.u8.wrap l.size = ((UInt8.ofNat l.size.toNat).toNat : Int) := by rw [u8_of (by omega), w_u8 (by omega) (by omega)]; omega
  refine Spc.body2 Tryz.func26 rfl Tryz.ntmps26 rfl ?_
  refine WC.seq ?_
  refine WC.region ?_
  (refine WL.box rfl spi_ rfl ?_; intro b2)
  refine gz_ ?_
  have hlb := lsz_bd l.wide
  have hin : ∀ v Hs, Ow 1 v (2 + 2) (bytesV (fix 5 2 l.big) ++ bytesV [UInt8.ofNat l.size.toNat, 0]) Hs → Ow 1 v (fix 5 2 l.big ++ [UInt8.ofNat l.size.toNat, 0]).length (bytesV (fix 5 2 l.big ++ [UInt8.ofNat l.size.toNat, 0])) Hs := fun v Hs h => by
    rw [← bytesV_append] at h; exact h.to rfl
  refine WC.cutM (fun R' Γ' H' => ∃ r Hs, R' = [(1, .slice ab body.length cb), (2, .pointer (some ⟨b2, 0, none⟩)), (5, r)] ∧ Γ = Γ' ∧ H' = Hs ++ ((b2, cel [.int .i64 l.vers, .bool l.wide, .int .i64 l.size, .bool l.big, .bool l.far] 23) :: H) ∧ Ow 1 r (fix 5 2 l.big ++ [UInt8.ofNat l.size.toNat, 0]).length (bytesV (fix 5 2 l.big ++ [UInt8.ofNat l.size.toNat, 0])) Hs) ?_ ?_
  · refine WC.draw 9 (.take 0 (.take 1 (.take 3 (.take 4 (.take 5 (.two 2 6 (.one 6 (.one 7 (.one 8 .done))) (.one 2 (.one 7 (.one 8 .done))))))))) ((b2, _) :: []) mixed (by (repeat (first | exact trivial | refine ⟨⟨_, pk_⟩, ?_⟩ | exact subH_self _ | apply subH_cons)); (first | done | fail)) (by decide +kernel) ?_
    refine dz_ ?_
    rw [hw8]
    refine WD.two rfl rfl ?_ ?_
    · refine WL.call rfl Tryz.call46 rfl rfl (by exact (fixed_ok (n := 5) (s := 2) (big := l.big) (by omega) (by decide))) ?_
      rintro r0 _ _ - ⟨rfl, H0, how0, rfl⟩
      refine dz_ ?_
      (refine WL.lit tab_ok rfl rfl rfl rfl rfl rfl rfl spi_ rfl ?_; intro bl)
      refine dz_ ?_
      refine WL.append tab_ok rfl rfl rfl rfl rfl rfl rfl rfl how0 tk_ ((Ow.lit (s := 1) (b := bl) (k := 2) (l := bytesV [UInt8.ofNat l.size.toNat, 0]) (T := 5) rfl).src tab_ok rfl (by ((repeat (first | apply Tk.one | apply Tk.skip | apply Tk.over)); (first | done | fail))) one_bytes) (by omega) (by omega) (fun v1 Hs1 how1 => ?_)
      refine dz_ ?_
      refine gz_ ?_
      exact WE.mid ⟨v1, Hs1, rfl, rfl, rfl, hin _ _ how1⟩ sr_ sn_
    · (refine WL.lit tab_ok rfl rfl rfl rfl rfl rfl rfl spi_ rfl ?_; intro bl)
      refine dz_ ?_
      refine WL.call rfl Tryz.call46 rfl rfl (by exact (fixed_ok (n := 5) (s := 2) (big := l.big) (by omega) (by decide))) ?_
      rintro r0 _ _ - ⟨rfl, H0, how0, rfl⟩
      refine dz_ ?_
      refine WL.append tab_ok rfl rfl rfl rfl rfl rfl rfl rfl how0 tk_ ((Ow.lit (s := 1) (b := bl) (k := 2) (l := bytesV [UInt8.ofNat l.size.toNat, 0]) (T := 5) rfl).src tab_ok rfl (by ((repeat (first | apply Tk.one | apply Tk.skip | apply Tk.over)); (first | done | fail))) one_bytes) (by omega) (by omega) (fun v1 Hs1 how1 => ?_)
      refine dz_ ?_
      refine gz_ ?_
      exact WE.mid ⟨v1, Hs1, rfl, rfl, rfl, hin _ _ how1⟩ sr_ sn_
  rintro _ _ _ ⟨r, Hs, rfl, rfl, rfl, how1⟩
  refine gz_ ?_
  refine WL.call rfl Tryz.call46 rfl rfl (by exact (fixed_ok (n := 0) (s := 4) (big := l.big) (by omega) (by decide))) ?_
  rintro r2 _ _ - ⟨rfl, H2, how2, rfl⟩
  refine gz_ ?_
  refine WL.append tab_ok rfl rfl rfl rfl rfl rfl rfl rfl how1 tk_ (how2.src tab_ok rfl tk_ one_bytes) (by simp [fix_length]) (by simp [fix_length]) (fun v3 Hs3 how3 => ?_)
  refine gz_ ?_
  rw [← bytesV_append] at how3
  have how4 := how3.to (l' := fix 5 2 l.big ++ [UInt8.ofNat l.size.toNat, 0] ++ fix 0 4 l.big) rfl
  have hl8 : (fix 5 2 l.big ++ [UInt8.ofNat l.size.toNat, 0] ++ fix 0 4 l.big).length = 8 := by simp [fix_length]
  have how5 : Ow 1 v3 8 (bytesV (fix 5 2 l.big ++ [UInt8.ofNat l.size.toNat, 0] ++ fix 0 4 l.big)) Hs3 := hl8 ▸ how4
  refine WC.draw 9 (.take 0 (.take 1 (.take 3 (.take 4 (.take 5 (.take 6 (.one 2 (.one 7 (.one 8 .done))))))))) ((b2, _) :: []) mixed (by (repeat (first | exact trivial | refine ⟨⟨_, pk_⟩, ?_⟩ | exact subH_self _ | apply subH_cons)); (first | done | fail)) (by decide +kernel) ?_
  refine dz_ ?_
  refine WL.append tab_ok rfl rfl rfl rfl rfl rfl rfl rfl how5 tk_ (how.src tab_ok rfl (Tk.over (Tk.over (Tk.skip hT))) one_bytes) (by omega) (by omega) (fun v6 Hs6 how6 => ?_)
  rw [← bytesV_append] at how6
  have how7 := how6.to (l' := lhB l body) (by simp [lhB])
  refine dz_ ?_
  refine WL.call rfl Tryz.call47 rfl rfl (by exact (lengthy_ok how7 tk_ (by simp [lhB, fix_length]; omega))) ?_
  rintro vx _ _ - ⟨rfl, Hx, hx, rfl⟩
  refine dz_ ?_
  refine gz_ ?_
  refine WE.re (H2 := Hx ++ H) sn_ ?_
  exact end_1 rfl rfl (Env.le.rfl' _) ⟨rfl, Hx, hx, rfl⟩
end Go.Proofs.YtdplhbmoidepgaaGreatDoor
namespace Go.Proofs.YtdplhbmoidepgaaGreatDoor
open Go Go.Sl
set_option maxRecDepth 10000
set_option maxHeartbeats 40000000

theorem pick2Tk {H H1 H2 A F : List Blk} {b b' : Nat} {o o' : Obj} (h : Pick H b o H1) (h1 : Pick H1 b' o' H2) (h2 : Tk H2 A F) : H.Perm ((b, o) :: (b', o') :: (A ++ F)) :=
  h.perm.trans ((h1.perm.trans (h2.perm.cons _)).cons _)
abbrev layC (l : Lay) : Obj := cel [.int .i64 l.vers, .bool l.wide, .int .i64 l.size, .bool l.big, .bool l.far] 23
theorem listText_ok {Γ : Env} {H : List Blk} {l : Lay} {x : Spn} {c : List Value} (hx : SpnC Γ x c) (hok : OkSpn l x) (hl : x.lst = true) :
   Spc Tryz.prog 27 #[layV l, .agg c.toArray] Γ H (fun v Γ' H' => Γ = Γ' ∧ ∃ Hs, Ow 1 v (lstT l x).length (bytesV (lstT l x)) Hs ∧ H' = Hs ++ H) := by
  obtain ⟨vp, rfl, a0, cap0, cells0, rfl, hcap0, hA0, hL0⟩ := hx
  have hz := hok.lay.sz
  have hnp := hok.np
  have hpies := hok.pie hl
  have hlen : ∀ k, (piesT l (x.pies.take k)).length ≤ 2100 := fun k => by
    have h1 := piesT_len (l := l) hz (ps := x.pies.take k) fun p hp => by
      have h := hpies p (List.mem_of_mem_take hp)
      have h1 := h.a
      have h2 := h.b
      omega
    rw [List.length_take] at h1; omega
  refine Spc.body2 Tryz.func27 rfl Tryz.ntmps27 rfl ?_
  refine WC.seq ?_
  refine WC.region ?_
  (refine WL.box rfl spi_ rfl ?_; intro b2)
  (refine WL.box rfl spi_ rfl ?_; intro b3)
  refine gz_ ?_
  (refine WL.lit tab_ok rfl rfl rfl rfl rfl rfl rfl spi_ rfl ?_; intro b9)
  refine gz_ ?_
  (refine WL.alloc tab_ok rfl rfl ?_; intro po)
  refine gz_ ?_
  refine WC.loopE (fun m R' Γ' H' => ∃ k vo Ho, R' = [(2, .pointer (some ⟨b2, 0, none⟩)), (5, .pointer (some ⟨po, 0, none⟩)), (6, .func (.func 48) #[] #[.pointer (some ⟨po, 0, none⟩), .pointer (some ⟨b2, 0, none⟩)]), (12, .slice a0 x.pies.length cap0), (13, .int .i64 (x.pies.length : Int)), (14, .int .i64 ((k : Nat) : Int))] ∧ Γ = Γ' ∧
     H' = (po, cel [vo] 29) :: (b2, layC l) :: (Ho ++ H) ∧ m = x.pies.length - k ∧ k ≤ x.pies.length ∧ Ow 1 vo (piesT l (x.pies.take k)).length (bytesV (piesT l (x.pies.take k))) Ho)
    ⟨0, .slice (some ⟨b9, 0, none⟩) 0 0, [(b9, cel [] 5)], rfl, rfl, rfl, rfl, Nat.zero_le _, Ow.lit (s := 1) (b := b9) (k := 0) (l := []) (T := 5) rfl⟩ sr_ sn_ ?_
  rintro m R' Γ' H' ⟨k, vo, Ho, rfl, rfl, rfl, rfl, hk, how⟩
  have hlk := hlen k
  obtain ⟨ao, co, rfl⟩ := Ow.shape how
  rcases Nat.lt_or_ge k x.pies.length with hlt | hge
  case inr =>
    have ek : k = x.pies.length := by omega
    subst ek
    rw [List.take_length] at how hlk
    rw [List.take_length]
    refine gz_ ?_
    refine WC.condF rfl (decide_eq_false (by omega)) ?_
    refine gz_ ?_
    by_cases h5 : l.vers < 5
    · refine WC.condT rfl (decide_eq_true h5) ?_
      refine gz_ ?_
      refine WL.call rfl Tryz.call48 rfl rfl (by exact (addr_ok (n := 0) hz (by omega) (pick2Tk pk_ pk_ tk_) how (by omega))) ?_
      rintro _ _ _ - ⟨rfl, rfl, vo1, Ho1, how1, rfl⟩
      refine gz_ ?_
      refine WL.call rfl Tryz.call48 rfl rfl (by exact (addr_ok (n := 0) hz (by omega) (pick2Tk pk_ pk_ tk_) how1 (by rw [List.length_append, fix_length]; omega))) ?_
      rintro _ _ _ - ⟨rfl, rfl, vo2, Ho2, how2, rfl⟩
      obtain ⟨a9, c9, rfl⟩ := Ow.shape how2
      refine gz_ ?_
      refine WE.re (H2 := Ho2 ++ H) sn_ ?_
      have e : piesT l x.pies ++ fix 0 l.size.toNat l.big ++ fix 0 l.size.toNat l.big = lstT l x := by rw [lstT, if_pos h5, List.append_assoc]
      exact end_1 rfl rfl (Env.le.rfl' _) ⟨rfl, Ho2, how2.to e, rfl⟩
    · refine WC.condF rfl (decide_eq_false h5) ?_
      refine gz_ ?_
      (refine WL.lit tab_ok rfl rfl rfl rfl rfl rfl rfl spi_ rfl ?_; intro bl)
      refine gz_ ?_
      refine WL.append tab_ok rfl rfl rfl rfl rfl rfl rfl rfl how tk_ ((Ow.lit (s := 1) (b := bl) (k := 1) (l := bytesV [0]) (T := 5) rfl).src tab_ok rfl (by ((repeat (first | apply Tk.one | apply Tk.skip | apply Tk.over)); (first | done | fail))) one_bytes) (by omega) (by omega) (fun v5 Hs5 how5 => ?_)
      rw [← bytesV_append] at how5
      refine gz_ ?_
      have e : piesT l x.pies ++ [0] = lstT l x := by rw [lstT, if_neg h5]
      refine WE.re (H2 := Hs5 ++ H) sn_ ?_
      exact end_1 rfl rfl (Env.le.rfl' _) ⟨rfl, Hs5, how5.to e, rfl⟩
  case inl =>
    obtain ⟨p, hp⟩ : ∃ p, x.pies[k]? = some p := ⟨_, List.getElem?_eq_getElem hlt⟩
    obtain ⟨bb, oo, c, rfl, hP, hc⟩ := elemA hA0 hL0 (fun _ _ h => PieC.len h) (w := 3) (by decide) hp
    cases hP
    have hop := hpies p (List.mem_of_getElem? hp)
    have hpa := hop.a
    have hpb := hop.b
    have hwi : IntKind.i64.wrap ((k : Int) + 1) = (k : Int) + 1 := w_i64 (by omega) (by omega)
    have htk : piesT l (x.pies.take (k + 1)) = piesT l (x.pies.take k) ++ pieT l p := by rw [List.take_add_one, hp]; simp [piesT]
    refine gz_ ?_
    refine WC.condT rfl (by first | rfl | exact decide_eq_true (by omega) | (simp; (first | done | fail)) | (simp; omega)) ?_
    refine gz_ ?_
    (refine WL.alloc tab_ok rfl rfl ?_; intro b8)
    refine gz_ ?_
    by_cases h5 : l.vers < 5
    · refine WC.condT rfl (decide_eq_true h5) ?_
      refine gz_ ?_
      by_cases k1 : p.kind = 1
      · refine WC.condT rfl (beq_iff_eq.2 k1) ?_
        refine gz_ ?_
        refine WL.call rfl Tryz.call49 rfl rfl (by exact (top_ok)) ?_
        rintro _ _ _ - ⟨rfl, rfl, rfl⟩
        refine gz_ ?_
        refine WL.call rfl Tryz.call48 rfl rfl (by exact (addr_ok (n := (if l.size = 4 then 4294967295 else 18446744073709551615)) hz (by first | omega | (split <;> omega)) (pick2Tk pk_ pk_ tk_) how (by first | omega | (simp only [List.length_append, List.length_cons, List.length_nil, fix_length]; omega)))) ?_
        rintro _ _ _ - ⟨rfl, rfl, vo1, Ho1, how1, rfl⟩
        obtain ⟨a1, c1, rfl⟩ := Ow.shape how1
        refine gz_ ?_
        refine WL.call rfl Tryz.call48 rfl rfl (by exact (addr_ok (n := p.a) hz (by first | omega | (split <;> omega)) (pick2Tk pk_ pk_ tk_) how1 (by first | omega | (simp only [List.length_append, List.length_cons, List.length_nil, fix_length]; omega)))) ?_
        rintro _ _ _ - ⟨rfl, rfl, vo2, Ho2, how2, rfl⟩
        refine gz_ ?_
        refine WE.again ⟨k + 1, vo2, Ho2, rfl, rfl, rfl, rfl, hlt, how2.to (by rw [htk]; simp [pieT, h5, k1])⟩ (by omega) ⟨rfl, rfl, rfl, rfl, rfl, congrArg (fun z => some (Value.int .i64 z)) hwi, trivial⟩ sn_
      · refine WC.condF rfl (beq_eq_false_iff_ne.2 k1) ?_
        refine gz_ ?_
        refine WL.call rfl Tryz.call48 rfl rfl (by exact (addr_ok (n := p.a) hz (by first | omega | (split <;> omega)) (pick2Tk pk_ pk_ tk_) how (by first | omega | (simp only [List.length_append, List.length_cons, List.length_nil, fix_length]; omega)))) ?_
        rintro _ _ _ - ⟨rfl, rfl, vo1, Ho1, how1, rfl⟩
        obtain ⟨a1, c1, rfl⟩ := Ow.shape how1
        refine gz_ ?_
        refine WL.call rfl Tryz.call48 rfl rfl (by exact (addr_ok (n := p.b) hz (by first | omega | (split <;> omega)) (pick2Tk pk_ pk_ tk_) how1 (by first | omega | (simp only [List.length_append, List.length_cons, List.length_nil, fix_length]; omega)))) ?_
        rintro _ _ _ - ⟨rfl, rfl, vo2, Ho2, how2, rfl⟩
        refine gz_ ?_
        refine WE.again ⟨k + 1, vo2, Ho2, rfl, rfl, rfl, rfl, hlt, how2.to (by rw [htk]; simp [pieT, h5, k1])⟩ (by omega) ⟨rfl, rfl, rfl, rfl, rfl, congrArg (fun z => some (Value.int .i64 z)) hwi, trivial⟩ sn_
    refine WC.condF rfl (decide_eq_false h5) ?_
    refine gz_ ?_
    by_cases k0 : p.kind = 0
    · refine WC.condT rfl (beq_iff_eq.2 k0) ?_
      refine gz_ ?_
      refine WC.draw 11 (.take 0 (.take 3 (.take 4 (.take 7 (.take 8 (.one 1 (.one 2 (.one 5 (.one 6 (.one 9 (.one 10 (.one 11 .done)))))))))))) ((po, _) :: (b8, _) :: []) mixed (by (repeat (first | exact trivial | refine ⟨⟨_, pk_⟩, ?_⟩ | exact subH_self _ | apply subH_cons)); (first | done | fail)) (by decide +kernel) ?_
      refine dz_ ?_
      (refine WL.lit tab_ok rfl rfl rfl rfl rfl rfl rfl spi_ rfl ?_; intro bl)
      refine dz_ ?_
      refine WL.append tab_ok rfl rfl rfl rfl rfl rfl rfl rfl how tk_ ((Ow.lit (s := 1) (b := bl) (k := 1) (l := bytesV [4]) (T := 5) rfl).src tab_ok rfl (by ((repeat (first | apply Tk.one | apply Tk.skip | apply Tk.over)); (first | done | fail))) one_bytes) (by omega) (by omega) (fun v5 Hs5 how5 => ?_)
      rw [← bytesV_append] at how5
      have how0 := how5.to (l' := piesT l (x.pies.take k) ++ [4]) rfl
      have hla : (ulebL p.a).length ≤ 10 := ulebL_len10 (by omega)
      have hlb : (ulebL p.b).length ≤ 10 := ulebL_len10 (by omega)
      refine dz_ ?_
      refine WL.call rfl Tryz.call50 rfl rfl (by exact (unsigned_ok (n := p.a) (by omega))) ?_
      rintro r1 _ _ - ⟨rfl, H1, how1, rfl⟩
      refine dz_ ?_
      refine WL.append tab_ok rfl rfl rfl rfl rfl rfl rfl rfl how0 tk_ (how1.src tab_ok rfl tk_ one_bytes) (by simp only [List.length_append, List.length_cons, List.length_nil, fix_length]; omega) (by simp only [List.length_append, List.length_cons, List.length_nil, fix_length]; omega) (fun v6 Hs6 how6 => ?_)
      rw [← bytesV_append] at how6
      have how7 := how6.to (l' := piesT l (x.pies.take k) ++ [4] ++ ulebL p.a) rfl
      refine dz_ ?_
      refine WL.call rfl Tryz.call50 rfl rfl (by exact (unsigned_ok (n := p.b) (by omega))) ?_
      rintro r2 _ _ - ⟨rfl, H2, how2, rfl⟩
      refine dz_ ?_
      refine WL.append tab_ok rfl rfl rfl rfl rfl rfl rfl rfl how7 tk_ (how2.src tab_ok rfl tk_ one_bytes) (by simp only [List.length_append, List.length_cons, List.length_nil, fix_length]; omega) (by simp only [List.length_append, List.length_cons, List.length_nil, fix_length]; omega) (fun v8 Hs8 how8 => ?_)
      rw [← bytesV_append] at how8
      have how9 := how8.to (l' := piesT l (x.pies.take (k + 1))) (by rw [htk]; simp [pieT, h5, k0])
      obtain ⟨a6, c6, rfl⟩ := Ow.shape how9
      refine dz_ ?_
      refine gz_ ?_
      exact WE.again ⟨k + 1, _, Hs8, rfl, rfl, rfl, rfl, hlt, how9⟩ (by omega) ⟨rfl, rfl, rfl, rfl, rfl, congrArg (fun z => some (Value.int .i64 z)) hwi, trivial⟩ sn_
    refine WC.condF rfl (beq_eq_false_iff_ne.2 k0) ?_
    refine gz_ ?_
    by_cases k1 : p.kind = 1
    · refine WC.condT rfl (beq_iff_eq.2 k1) ?_
      refine gz_ ?_
      (refine WL.lit tab_ok rfl rfl rfl rfl rfl rfl rfl spi_ rfl ?_; intro bl)
      refine gz_ ?_
      refine WL.append tab_ok rfl rfl rfl rfl rfl rfl rfl rfl how tk_ ((Ow.lit (s := 1) (b := bl) (k := 1) (l := bytesV [5]) (T := 5) rfl).src tab_ok rfl (by ((repeat (first | apply Tk.one | apply Tk.skip | apply Tk.over)); (first | done | fail))) one_bytes) (by omega) (by omega) (fun v5 Hs5 how5 => ?_)
      rw [← bytesV_append] at how5
      have how0 := how5.to (l' := piesT l (x.pies.take k) ++ [5]) rfl
      obtain ⟨a0', c0', rfl⟩ := Ow.shape how0
      refine gz_ ?_
      refine WL.call rfl Tryz.call48 rfl rfl (by exact (addr_ok (n := p.a) hz (by omega) (pick2Tk pk_ pk_ tk_) how0 (by first | omega | (simp only [List.length_append, List.length_cons, List.length_nil, fix_length]; omega)))) ?_
      rintro _ _ _ - ⟨rfl, rfl, vo1, Ho1, how1, rfl⟩
      refine gz_ ?_
      refine WE.again ⟨k + 1, vo1, Ho1, rfl, rfl, rfl, rfl, hlt, how1.to (by rw [htk]; simp [pieT, h5, k0, k1])⟩ (by omega) ⟨rfl, rfl, rfl, rfl, rfl, congrArg (fun z => some (Value.int .i64 z)) hwi, trivial⟩ sn_
    refine WC.condF rfl (beq_eq_false_iff_ne.2 k1) ?_
    refine gz_ ?_
    by_cases k2 : p.kind = 2
    · refine WC.condT rfl (beq_iff_eq.2 k2) ?_
      refine gz_ ?_
      (refine WL.lit tab_ok rfl rfl rfl rfl rfl rfl rfl spi_ rfl ?_; intro bl)
      refine gz_ ?_
      refine WL.append tab_ok rfl rfl rfl rfl rfl rfl rfl rfl how tk_ ((Ow.lit (s := 1) (b := bl) (k := 1) (l := bytesV [6]) (T := 5) rfl).src tab_ok rfl (by ((repeat (first | apply Tk.one | apply Tk.skip | apply Tk.over)); (first | done | fail))) one_bytes) (by omega) (by omega) (fun v5 Hs5 how5 => ?_)
      rw [← bytesV_append] at how5
      have how0 := how5.to (l' := piesT l (x.pies.take k) ++ [6]) rfl
      obtain ⟨a0', c0', rfl⟩ := Ow.shape how0
      refine gz_ ?_
      refine WL.call rfl Tryz.call48 rfl rfl (by exact (addr_ok (n := p.a) hz (by first | omega | (split <;> omega)) (pick2Tk pk_ pk_ tk_) how0 (by first | omega | (simp only [List.length_append, List.length_cons, List.length_nil, fix_length]; omega)))) ?_
      rintro _ _ _ - ⟨rfl, rfl, vo1, Ho1, how1, rfl⟩
      obtain ⟨a1, c1, rfl⟩ := Ow.shape how1
      refine gz_ ?_
      refine WL.call rfl Tryz.call48 rfl rfl (by exact (addr_ok (n := p.b) hz (by first | omega | (split <;> omega)) (pick2Tk pk_ pk_ tk_) how1 (by first | omega | (simp only [List.length_append, List.length_cons, List.length_nil, fix_length]; omega)))) ?_
      rintro _ _ _ - ⟨rfl, rfl, vo2, Ho2, how2, rfl⟩
      refine gz_ ?_
      refine WE.again ⟨k + 1, vo2, Ho2, rfl, rfl, rfl, rfl, hlt, how2.to (by rw [htk]; simp [pieT, h5, k0, k1, k2])⟩ (by omega) ⟨rfl, rfl, rfl, rfl, rfl, congrArg (fun z => some (Value.int .i64 z)) hwi, trivial⟩ sn_
    refine WC.condF rfl (beq_eq_false_iff_ne.2 k2) ?_
    refine gz_ ?_
    by_cases k3 : p.kind = 3
    · refine WC.condT rfl (beq_iff_eq.2 k3) ?_
      refine gz_ ?_
      (refine WL.lit tab_ok rfl rfl rfl rfl rfl rfl rfl spi_ rfl ?_; intro bl)
      refine gz_ ?_
      refine WL.append tab_ok rfl rfl rfl rfl rfl rfl rfl rfl how tk_ ((Ow.lit (s := 1) (b := bl) (k := 1) (l := bytesV [7]) (T := 5) rfl).src tab_ok rfl (by ((repeat (first | apply Tk.one | apply Tk.skip | apply Tk.over)); (first | done | fail))) one_bytes) (by omega) (by omega) (fun v5 Hs5 how5 => ?_)
      rw [← bytesV_append] at how5
      have how0 := how5.to (l' := piesT l (x.pies.take k) ++ [7]) rfl
      obtain ⟨a0', c0', rfl⟩ := Ow.shape how0
      refine gz_ ?_
      refine WL.call rfl Tryz.call48 rfl rfl (by exact (addr_ok (n := p.a) hz (by omega) (pick2Tk pk_ pk_ tk_) how0 (by first | omega | (simp only [List.length_append, List.length_cons, List.length_nil, fix_length]; omega)))) ?_
      rintro _ _ _ - ⟨rfl, rfl, vo1, Ho1, how1, rfl⟩
      obtain ⟨a1, c1, rfl⟩ := Ow.shape how1
      refine gz_ ?_
      refine WC.draw 5 (.take 0 (.take 1 (.take 2 (.one 3 (.one 4 (.one 5 .done)))))) ((po, _) :: (b8, _) :: []) mixed (by (repeat (first | exact trivial | refine ⟨⟨_, pk_⟩, ?_⟩ | exact subH_self _ | apply subH_cons)); (first | done | fail)) (by decide +kernel) ?_
      refine dz_ ?_
      refine WL.call rfl Tryz.call50 rfl rfl (by exact (unsigned_ok (n := p.b) (by omega))) ?_
      rintro r2 _ _ - ⟨rfl, H2, how2, rfl⟩
      have hlb : (ulebL p.b).length ≤ 10 := ulebL_len10 (by omega)
      refine dz_ ?_
      refine WL.append tab_ok rfl rfl rfl rfl rfl rfl rfl rfl how1 tk_ (how2.src tab_ok rfl tk_ one_bytes) (by first | omega | (simp only [List.length_append, List.length_cons, List.length_nil, fix_length]; omega)) (by first | omega | (simp only [List.length_append, List.length_cons, List.length_nil, fix_length]; omega)) (fun v6 Hs6 how6 => ?_)
      rw [← bytesV_append] at how6
      obtain ⟨a6, c6, rfl⟩ := Ow.shape how6
      refine dz_ ?_
      refine gz_ ?_
      refine WE.again ⟨k + 1, _, Hs6, rfl, rfl, rfl, rfl, hlt, how6.to (by rw [htk]; simp [pieT, h5, k0, k1, k2, k3])⟩ (by omega) ⟨rfl, rfl, rfl, rfl, rfl, congrArg (fun z => some (Value.int .i64 z)) hwi, trivial⟩ sn_
    refine WC.condF rfl (beq_eq_false_iff_ne.2 k3) ?_
    refine gz_ ?_
    refine WE.again ⟨k + 1, _, Ho, rfl, rfl, rfl, rfl, hlt, how.to (by rw [htk]; simp [pieT, h5, k0, k1, k2, k3])⟩ (by omega) ⟨rfl, rfl, rfl, rfl, rfl, congrArg (fun z => some (Value.int .i64 z)) hwi, trivial⟩ sn_
end Go.Proofs.YtdplhbmoidepgaaGreatDoor
namespace Go.Proofs.YtdplhbmoidepgaaGreatDoor
open Go Go.Sl
set_option maxRecDepth 10000
set_option maxHeartbeats 40000000

/-- The cells of an attribute without text or bytes. -/
def attV (a : Att) : List Value := [.int .i64 a.attr, .int .i64 a.form, .bool false, .int .u64 (a.n : Int), noStr, nilS]
def attVs : List Att → List Value
  | [] => []
  | a :: l => attV a ++ attVs l
theorem attVs_lis {Γ : Env} : ∀ {l : List Att}, (∀ a ∈ l, a.ind = false ∧ a.s = noS ∧ a.b = [] ∧ a.n < 18446744073709551616) → LisC (AttC Γ) l (attVs l)
  | [], _ => rfl
  | a :: l, h => by
    obtain ⟨h1, h2, h3, h4⟩ := h a (List.mem_cons_self ..)
    refine ⟨attV a, attVs l, rfl, ⟨nilS, by rw [h1, h2]; rfl, ?_, h4⟩, attVs_lis fun b hb => h b (List.mem_cons_of_mem _ hb)⟩
    rw [h3]; exact ⟨none, 0, rfl, Nat.le_refl _, fun i x e => by simp at e⟩
theorem spanA_lis {Γ : Env} {l : Lay} {x : Spn} {k : Nat} (hx : OkSpn l x) (hk : k < 2147483648) : LisC (AttC Γ) (spanA l x k) (attVs (spanA l x k)) := by
  have h1 := hx.low
  have h2 := hx.high
  refine attVs_lis fun a ha => ?_
  unfold spanA at ha
  rcases List.mem_cons.1 ha with rfl | ha
  · exact ⟨rfl, rfl, rfl, by simp only []; omega⟩
  · cases hl : x.lst with
    | true =>
      rw [hl] at ha
      simp only [if_true, List.mem_singleton] at ha
      subst ha
      exact ⟨rfl, rfl, rfl, by simp only []; omega⟩
    | false =>
      rw [hl] at ha
      cases hn : x.len with
      | true =>
        rw [hn] at ha
        simp only [Bool.false_eq_true, if_false, if_true, List.mem_singleton] at ha
        subst ha
        exact ⟨rfl, rfl, rfl, by simp only []; omega⟩
      | false =>
        rw [hn] at ha
        simp only [Bool.false_eq_true, if_false, List.mem_singleton] at ha
        subst ha
        exact ⟨rfl, rfl, rfl, by simp only []; omega⟩
theorem spanAttrs_ok {Γ : Env} {H : List Blk} {l : Lay} {x : Spn} {c : List Value} {k : Nat} (hx : SpnC Γ x c) (hok : OkSpn l x) (hk : k < 2147483648) :
   Spc Tryz.prog 28 #[layV l, .agg c.toArray, .int .i64 (k : Int)] Γ H (fun v Γ' H' => Γ = Γ' ∧ ∃ Hs, Ow 6 v 2 (attVs (spanA l x k)) Hs ∧ H' = Hs ++ H) := by
  obtain ⟨vp, rfl, a0, cap0, cells0, rfl, hcap0, hA0, hL0⟩ := hx
  have hlow := hok.low
  have hhigh := hok.high
  have hwk : IntKind.u64.wrap (k : Int) = (k : Int) := w_u64 (by omega) (by omega)
  refine Spc.body3 Tryz.func28 rfl Tryz.ntmps28 rfl ?_
  refine WC.seq ?_
  refine WC.region ?_
  (refine WL.box rfl spi_ rfl ?_; intro b3)
  (refine WL.box rfl spi_ rfl ?_; intro b4)
  refine gz_ ?_
  (refine WL.alloc tab_ok rfl rfl ?_; intro b7)
  refine gz_ ?_
  by_cases hl : x.lst = true
  · refine WC.condT rfl hl ?_
    refine gz_ ?_
    rw [hwk]
    (refine WL.alloc tab_ok rfl rfl ?_; intro b8)
    refine gz_ ?_
    refine WC.cutM (fun R' Γ' H' => R' = [(7, .pointer (some ⟨b7, 0, none⟩)), (8, .pointer (some ⟨b8, 0, none⟩))] ∧ Γ = Γ' ∧ H' = (b7, cel (attV (attN 17 1 x.low)) 63) :: (b8, cel (attV (attN 85 (if l.vers < 4 then (if l.wide then 7 else 6) else 23) k)) 63) :: H) ?_ ?_
    · by_cases h4 : l.vers < 4
      · refine WC.condT rfl (decide_eq_true h4) ?_
        refine gz_ ?_
        cases hw : l.wide with
        | true =>
          refine gz_ ?_
          rw [if_pos h4]
          exact WE.mid ⟨rfl, rfl, rfl⟩ sr_ sn_
        | false =>
          refine gz_ ?_
          rw [if_pos h4]
          exact WE.mid ⟨rfl, rfl, rfl⟩ sr_ sn_
      · refine WC.condF rfl (decide_eq_false h4) ?_
        refine gz_ ?_
        rw [if_neg h4]
        exact WE.mid ⟨rfl, rfl, rfl⟩ sr_ sn_
    rintro _ _ _ ⟨rfl, rfl, rfl⟩
    refine gz_ ?_
    (refine WL.lit tab_ok rfl rfl rfl rfl rfl rfl rfl spi_ rfl ?_; intro bl)
    refine gz_ ?_
    have e : spanA l x k = [attN 17 1 x.low, attN 85 (if l.vers < 4 then (if l.wide then 7 else 6) else 23) k] := by simp [spanA, hl]
    rw [e]
    refine WE.re (H2 := [(bl, cel (attVs [attN 17 1 x.low, attN 85 (if l.vers < 4 then (if l.wide then 7 else 6) else 23) k]) 63)] ++ H) sn_ ?_
    exact end_1 rfl rfl (Env.le.rfl' _) ⟨rfl, _, Ow.lit (s := 6) (b := bl) (k := 2) (T := 63) rfl, rfl⟩
  · have hl2 : x.lst = false := Bool.not_eq_true _ ▸ hl
    have hfl := (hok.flat hl2).1
    have hws : IntKind.u64.wrap ((x.high : Int) - (x.low : Int)) = ((x.high - x.low : Nat) : Int) := by rw [w_u64 (by omega) (by omega)]; omega
    refine WC.condF rfl hl2 ?_
    refine gz_ ?_
    by_cases hn : x.len = true
    · refine WC.condT rfl hn ?_
      refine gz_ ?_
      rw [hws]
      refine gz_ ?_
      (refine WL.lit tab_ok rfl rfl rfl rfl rfl rfl rfl spi_ rfl ?_; intro bl)
      refine gz_ ?_
      have e : spanA l x k = [attN 17 1 x.low, attN 18 7 (x.high - x.low)] := by simp [spanA, hl2, hn]
      rw [e]
      refine WE.re (H2 := [(bl, cel (attVs [attN 17 1 x.low, attN 18 7 (x.high - x.low)]) 63)] ++ H) sn_ ?_
      exact end_1 rfl rfl (Env.le.rfl' _) ⟨rfl, _, Ow.lit (s := 6) (b := bl) (k := 2) (T := 63) rfl, rfl⟩
    · have hn2 : x.len = false := Bool.not_eq_true _ ▸ hn
      refine WC.condF rfl hn2 ?_
      refine gz_ ?_
      (refine WL.lit tab_ok rfl rfl rfl rfl rfl rfl rfl spi_ rfl ?_; intro bl)
      refine gz_ ?_
      have e : spanA l x k = [attN 17 1 x.low, attN 18 1 x.high] := by simp [spanA, hl2, hn2]
      rw [e]
      refine WE.re (H2 := [(bl, cel (attVs [attN 17 1 x.low, attN 18 1 x.high]) 63)] ++ H) sn_ ?_
      exact end_1 rfl rfl (Env.le.rfl' _) ⟨rfl, _, Ow.lit (s := 6) (b := bl) (k := 2) (T := 63) rfl, rfl⟩
end Go.Proofs.YtdplhbmoidepgaaGreatDoor
namespace Go.Proofs.YtdplhbmoidepgaaGreatDoor
open Go Go.Sl
set_option maxRecDepth 10000
set_option maxHeartbeats 40000000

theorem unisS_pre {l : Lay} : ∀ {ks : List Nat} {sp : List Spn} {us : List Uni} {i : Nat}, (unisS l ks sp us).take i = unisS l ks sp (us.take i)
  | [], _, us, i => by cases us <;> cases i <;> simp [unisS]
  | _ :: _, [], us, i => by cases us <;> cases i <;> simp [unisS]
  | _ :: _, _ :: _, [], i => by cases i <;> simp [unisS]
  | k :: ks, x :: sp, u :: us, 0 => by simp [unisS]
  | k :: ks, x :: sp, u :: us, i + 1 => by rw [unisS, List.take_succ_cons, List.take_succ_cons, unisS, unisS_pre]
/-- Where a unit begins. -/
def baseU (big : Bool) (us : List Uni) (k : Nat) : Nat := (pusB big (pusU big 0 0 0 0 (us.take k))).length
/-- What is told of a unit that is made. -/
def FndC (Γ : Env) (big : Bool) (us : List Uni) (k : Nat) (c : List Value) : Prop :=
  ∃ u ve, us[k]? = some u ∧ c = [.int .i64 (baseU big us k : Int), ve] ∧ Arr Γ (EntN Γ u.vers (baseU big us k) (plU u big (baseU big us k) (strT (us.take k)).length (linT (us.take k)).length) u.nods) ve (List.range u.nods.length)
theorem FndC.len {Γ : Env} {big : Bool} {us : List Uni} {k : Nat} {c : List Value} (h : FndC Γ big us k c) : c.length = 2 := by obtain ⟨u, ve, -, rfl, -⟩ := h; rfl
theorem FndC.mono {Γ Γ' : Env} (hle : Γ.le Γ') {big : Bool} {us : List Uni} {k : Nat} {c : List Value} (h : FndC Γ big us k c) : FndC Γ' big us k c := by
  obtain ⟨u, ve, h1, h2, h3⟩ := h
  exact ⟨u, ve, h1, h2, h3.mono hle fun _ _ h => h.mono hle⟩
/-! ### How large it is -/
theorem unitK_w {u : Uni} (h : UniT u) (hn : ∀ x ∈ u.nods, ∀ a ∈ x.atts, a.n < 18446744073709551616) {big : Bool} {abo base so lo : Nat} : (puB big (puU u big abo base so lo)).length ≤ 60000 + wU u := by
  have h1 := unitE_len (u := u) (big := big) (abo := abo) (base := base) (so := so) (lo := lo)
  rw [unitE_pu h] at h1
  have h2 := sumL_le (v := u.vers) (w := u.wide) (z := u.size) (big := big) (so := so) (lo := lo) (k := 0) (l := u.nods) h.sz (by have := h.n1; omega) fun x hx => ⟨h.nod x hx, hn x hx⟩
  have h3 : hdz u big ≤ 24 := by rw [hdz, hdrE_len]; cases u.wide <;> split <;> decide
  have h4 := h.n1
  have h5 : sumBy wN u.nods = wU u := rfl
  omega
theorem UniK.num {u : Uni} (h : UniK u) : ∀ x ∈ u.nods, ∀ a ∈ x.atts, a.n < 18446744073709551616 := fun x hx a ha => (h.att x hx a ha).n64
theorem pusU_w {big : Bool} : ∀ {us : List Uni} {abo base so lo : Nat}, (∀ u ∈ us, UniK u) → (pusB big (pusU big abo base so lo us)).length ≤ 60000 * us.length + sumBy wU us
  | [], _, _, _, _, _ => by simp [pusU, pusB]
  | u :: us, abo, base, so, lo, h => by
    have h1 := unitK_w (h u (List.mem_cons_self ..)).toUniT (h u (List.mem_cons_self ..)).num (big := big) (abo := abo) (base := base) (so := so) (lo := lo)
    have h2 := pusU_w (big := big) (us := us) (abo := abo + ((encAs (absL 0 u.nods)).length + 1)) (base := base + (puB big (puU u big abo base so lo)).length) (so := so + (textS u.nods).length) (lo := lo + (textL u.nods).length) fun y hy => h y (List.mem_cons_of_mem _ hy)
    rw [pusU, pusB, List.length_append, List.length_cons]
    simp only [sumBy]; omega
theorem abT_w : ∀ {us : List Uni}, (∀ u ∈ us, UniK u) → (abT us).length ≤ 6000000 * us.length
  | [], _ => by simp [abT]
  | u :: us, h => by
    have hu := (h u (List.mem_cons_self ..))
    have h1 := encAs_len (l := u.nods) (k := 0) (by have := hu.n1; omega) hu.nod
    have h2 := abT_w (us := us) fun y hy => h y (List.mem_cons_of_mem _ hy)
    have h3 := hu.n1
    simp only [abT, List.flatMap_cons, List.length_append, List.length_cons, List.length_nil] at h2 ⊢; omega
theorem strT_w : ∀ us : List Uni, (strT us).length ≤ sumBy wU us
  | [] => by simp [strT]
  | u :: us => by have h1 := textS_len u.nods; have h2 := strT_w us; simp only [strT, List.flatMap_cons, List.length_append, sumBy, wU] at *; omega
theorem linT_w : ∀ us : List Uni, (linT us).length ≤ sumBy wU us
  | [] => by simp [linT]
  | u :: us => by have h1 := textL_len u.nods; have h2 := linT_w us; simp only [linT, List.flatMap_cons, List.length_append, sumBy, wU] at *; omega
theorem unisS_w {l : Lay} : ∀ (ks : List Nat) (sp : List Spn) (us : List Uni), sumBy wU (unisS l ks sp us) ≤ sumBy wU us + 64 * us.length
  | [], _, us => by simp [unisS, sumBy]
  | _ :: _, [], us => by simp [unisS, sumBy]
  | _ :: _, _ :: _, [] => by simp [unisS, sumBy]
  | k :: ks, x :: sp, u :: us => by
    have h1 := uniS_w l x k u
    have h2 := unisS_w (l := l) ks sp us
    rw [unisS, List.length_cons]; simp only [sumBy]; omega
theorem unisS_all {l : Lay} {Q : Uni → Prop} : ∀ {ks : List Nat} {sp : List Spn} {us : List Uni}, (∀ (i k : Nat) (x : Spn) (u : Uni), ks[i]? = some k → sp[i]? = some x → us[i]? = some u → Q (uniS l x k u)) → ∀ u ∈ unisS l ks sp us, Q u
  | [], _, us, _, u, hu => by simp [unisS] at hu
  | _ :: _, [], us, _, u, hu => by simp [unisS] at hu
  | _ :: _, _ :: _, [], _, u, hu => by simp [unisS] at hu
  | k :: ks, x :: sp, u :: us, h, u', hu => by
    rw [unisS] at hu
    rcases List.mem_cons.1 hu with rfl | hu
    · exact h 0 k x u rfl rfl rfl
    · exact unisS_all (fun i k x u h1 h2 h3 => h (i + 1) k x u (by simpa using h1) (by simpa using h2) (by simpa using h3)) u' hu
/-- The units that Spanned makes. -/
def mkU (l : Lay) (sp : List Spn) (us : List Uni) : List Uni := unisS l (atsS l (bgn l) sp) sp us
theorem mkU_ok {l : Lay} {sp : List Spn} {us : List Uni} (h : OkSpd l sp us) (hn : ∀ u ∈ us, ∀ x ∈ u.nods, ∀ a ∈ x.atts, a.n < 18446744073709551616) : ∀ u ∈ mkU l sp us, UniK u := by
  refine unisS_all fun i k x u h1 h2 h3 => ?_
  obtain ⟨g1, g2, g3, g4, g5⟩ := h.each i x u h2 h3
  have hi := (List.getElem?_eq_some_iff.1 h2).1
  rw [atsS_get hi] at h1
  injection h1 with h1
  have hb := bgn_le l
  have hl := lstsT_len (l := l) (sp := sp.take i) fun y hy => by
    obtain ⟨j, hj⟩ := List.getElem?_of_mem (List.mem_of_mem_take hy)
    have hjl := (List.getElem?_eq_some_iff.1 hj).1
    obtain ⟨v, hv⟩ : ∃ v, us[j]? = some v := ⟨_, List.getElem?_eq_getElem (by have := h.sl; omega)⟩
    exact (h.each j y v hj hv).1
  have h4 := h.n4
  have hsl := h.sl
  rw [List.length_take] at hl
  exact uniS_ok h.lay g1 (by omega) g5 g2 g3 g4 (hn u (List.mem_of_getElem? h3))
end Go.Proofs.YtdplhbmoidepgaaGreatDoor
namespace Go.Proofs.YtdplhbmoidepgaaGreatDoor
open Go Go.Sl
set_option maxRecDepth 10000
set_option maxHeartbeats 40000000

theorem numsU {Γ : Env} {a : Option Addr} {cells : List Value} {l : List Uni} (hA : ImA Γ a cells) (hL : LisC (UniC Γ) l cells) : ∀ u ∈ l, ∀ x ∈ u.nods, ∀ a ∈ x.atts, a.n < 18446744073709551616 := by
  intro u hu
  obtain ⟨k, hk⟩ := List.getElem?_of_mem hu
  obtain ⟨_, _, _, -, ⟨_, -, a0, cap0, cells0, -, -, hA0, hL0⟩, -⟩ := elemA hA hL (fun _ _ h => h.len) (w := 4) (by decide) hk
  exact numsOk hA0 hL0
theorem ints_one (l : List Nat) : ∀ y ∈ (l.map fun (n : Nat) => Value.int .i64 (n : Int)), y.oneCell' = true := by
  intro y hy
  obtain ⟨n, -, rfl⟩ := List.mem_map.1 hy
  rfl
theorem AttC.one {Γ : Env} {x : Att} {c : List Value} (h : AttC Γ x c) : ∀ y ∈ c, y.oneCell' = true := by
  obtain ⟨v, rfl, ⟨a, cap, rfl, -, -⟩, -⟩ := h
  intro y hy; simp only [List.mem_cons, List.not_mem_nil, or_false] at hy
  rcases hy with rfl | rfl | rfl | rfl | rfl | rfl <;> rfl
theorem NodC.one {Γ : Env} {x : Nod} {c : List Value} (h : NodC Γ x c) : ∀ y ∈ c, y.oneCell' = true := by
  obtain ⟨v, rfl, ⟨a, cap, cells, rfl, -, -, -⟩⟩ := h
  intro y hy; simp only [List.mem_cons, List.not_mem_nil, or_false] at hy
  rcases hy with rfl | rfl | rfl | rfl <;> rfl
theorem LisC.one' {α : Type} {P : α → List Value → Prop} (hP : ∀ x c, P x c → ∀ y ∈ c, y.oneCell' = true) : ∀ {xs : List α} {cs : List Value}, LisC P xs cs → ∀ y ∈ cs, y.oneCell' = true
  | [], _, h, y, hy => by cases h; simp at hy
  | _ :: _, _, ⟨c1, c2, h1, h2, h3⟩, y, hy => by
    rw [h1] at hy
    rcases List.mem_append.1 hy with hy | hy
    · exact hP _ _ h2 y hy
    · exact LisC.one' hP h3 y hy
theorem Ow.row' {s n cap b : Nat} {l : List Value} {Hs : List Blk} (h : Ow s (.slice (some ⟨b, 0, none⟩) n cap) n l Hs) : ∃ sp T fz, Hs = [(b, celF (l ++ sp) T fz)] ∧ n ≤ cap ∧ l.length = n * s ∧ sp.length + l.length = cap * s ∧ thawed fz (l ++ sp).length := by
  generalize e : Value.slice (some ⟨b, 0, none⟩) n cap = v at h
  cases h with
  | nil => injection e with e; cases e
  | row h1 h2 h3 h4 =>
    injection e with e1 e2 e3
    injection e1 with e1; injection e1 with e1
    subst e1 e3
    exact ⟨_, _, _, rfl, h1, h2, h3, h4⟩
theorem pick2Tk4 {H H1 H2 H3 H4 H5 A B C D F : List Blk} {b b' : Nat} {o o' : Obj} (h : Pick H b o H1) (h1 : Pick H1 b' o' H2) (t1 : Tk H2 A H3) (t2 : Tk H3 B H4) (t3 : Tk H4 C H5) (t4 : Tk H5 D F) :
    H.Perm ((b, o) :: (b', o') :: (A ++ (B ++ (C ++ (D ++ F))))) :=
  h.perm.trans ((h1.perm.trans ((t1.perm.trans ((t2.perm.trans ((t3.perm.trans (t4.perm.append_left C)).append_left B)).append_left A)).cons _)).cons _)
theorem Im.cells {Γ : Env} {b n cap : Nat} {l : List Value} (h : Im Γ (.slice (some ⟨b, 0, none⟩) n cap) n l) : n ≤ cap ∧ ∀ k x, l[k]? = some x → Γ.cell b k = some x := by
  obtain ⟨a, c, e, hc, hA⟩ := h
  injection e with e1 e2 e3
  subst e1 e3
  refine ⟨hc, fun k x hk => ?_⟩
  obtain ⟨b', o', e, g⟩ := hA k x hk
  injection e with e; injection e with e1 e2
  subst e1 e2
  rwa [Nat.zero_add] at g
theorem byt_nil {Γ : Env} : Byt Γ nilS [] := ⟨none, 0, rfl, Nat.le_refl _, fun i x e => by simp at e⟩
abbrev secC (a b c d e f g : Value) : Obj := cel [a, b, c, d, e, f, g] 32
theorem spanned_ok {Γ : Env} {H : List Blk} {l : Lay} {sp : List Spn} {us : List Uni} {v1 v2 v3 : Value} (h1 : Arr Γ (SpnC Γ) v1 sp) (h2 : Arr Γ (UniC Γ) v2 us) (h3 : Im Γ v3 us.length (List.replicate us.length nilS)) (hok : OkSpd l sp us) :
   Spc Tryz.prog 10 #[layV l, v1, v2, v3, nilS] Γ H (fun v Γ' H' => ∃ sc vf, v = .tuple #[sc, vf] ∧
     SecR Γ' sc (abT (mkU l sp us)) (pusB l.big (pusU l.big 0 0 0 0 (mkU l sp us))) [] (if 4 < l.vers then [] else lstsT l sp) (strT (mkU l sp us)) (linT (mkU l sp us)) (if 4 < l.vers then some (headT l (lstsT l sp)) else none) ∧
     Arr Γ' (FndC Γ' l.big (mkU l sp us)) vf (List.range us.length) ∧ H' = H) := by
  obtain ⟨a1, cap1, cells1, rfl, hcap1, hA1, hL1⟩ := h1
  obtain ⟨a2, cap2, cells2, rfl, hcap2, hA2, hL2⟩ := h2
  obtain ⟨a3, cap3, rfl, hcap3, hA3⟩ := h3
  have hz := hok.lay.sz
  have hn4 := hok.n4
  have hsl := hok.sl
  have hn0 := hok.n0
  have hU := mkU_ok hok (numsU hA2 hL2)
  have hspn : ∀ x ∈ sp, OkSpn l x := fun x hx => by
    obtain ⟨j, hj⟩ := List.getElem?_of_mem hx
    have hjl := (List.getElem?_eq_some_iff.1 hj).1
    obtain ⟨v, hv⟩ : ∃ v, us[j]? = some v := ⟨_, List.getElem?_eq_getElem (by omega)⟩
    exact (hok.each j x v hj hv).1
  have hbg := bgn_le l
  have hlst : ∀ k, (lstsT l (sp.take k)).length ≤ 8800 := fun k => by
    have := lstsT_len (l := l) (sp := sp.take k) fun x hx => hspn x (List.mem_of_mem_take hx)
    rw [List.length_take] at this; omega
  refine Spc.body5 Tryz.func10 rfl Tryz.ntmps10 rfl ?_
  refine WC.seq ?_
  refine WC.region ?_
  (refine WL.box rfl spi_ rfl ?_; intro b5)
  (refine WL.alloc tab_ok rfl rfl ?_; intro b10)
  refine gz_ ?_
  (refine WL.lit tab_ok rfl rfl rfl rfl rfl rfl rfl spi_ rfl ?_; intro b26)
  refine gz_ ?_
  (refine WL.lit tab_ok rfl rfl rfl rfl rfl rfl rfl spi_ rfl ?_; intro b27)
  refine gz_ ?_
  refine WC.cutM (fun R' Γ' H' => R' = [(1, .slice a1 sp.length cap1), (2, .slice a2 us.length cap2), (3, .slice a3 us.length cap3), (4, nilS), (5, .pointer (some ⟨b5, 0, none⟩)), (10, .pointer (some ⟨b10, 0, none⟩)), (12, .slice (some ⟨b26, 0, none⟩) 0 0), (13, .slice (some ⟨b27, 0, none⟩) 0 0), (14, .int .i64 (bgn l : Int))] ∧ Γ = Γ' ∧
     H' = (b26, cel [] 5) :: (b27, cel [] 3) :: (b10, secC nilS nilS nilS nilS nilS nilS nilS) :: (b5, layC l) :: H) ?_ ?_
  · by_cases h4 : 4 < l.vers
    · refine WC.condT rfl (decide_eq_true h4) ?_
      refine gz_ ?_
      refine WL.call rfl Tryz.call26 rfl rfl (by exact (listsHead_ok (body := []) hz (Ow.nil (s := 1)) (Tk.here (Hs := [])) (by decide))) ?_
      rintro vh _ _ - ⟨rfl, Hh, hh, rfl⟩
      obtain ⟨ah, ch, rfl⟩ := Ow.shape hh
      refine gz_ ?_
      rw [show (headT l []).length = bgn l from by rw [bgn, if_pos h4]]
      exact WE.mid ⟨rfl, rfl, rfl⟩ sr_ sn_
    · refine WC.condF rfl (decide_eq_false h4) ?_
      refine gz_ ?_
      have : bgn l = 0 := by rw [bgn, if_neg h4]
      rw [this]
      exact WE.mid ⟨rfl, rfl, rfl⟩ sr_ sn_
  rintro _ _ _ ⟨rfl, rfl, rfl⟩
  refine gz_ ?_
  refine WC.loopE (fun m R' Γ' H' => ∃ k vl Hl vt Ht, R' = [(1, .slice a1 sp.length cap1), (2, .slice a2 us.length cap2), (3, .slice a3 us.length cap3), (4, nilS), (5, .pointer (some ⟨b5, 0, none⟩)), (10, .pointer (some ⟨b10, 0, none⟩)), (12, vl), (13, vt), (14, .int .i64 (bgn l : Int)), (34, .slice a1 sp.length cap1), (35, .int .i64 (sp.length : Int)), (36, .int .i64 ((k : Nat) : Int))] ∧ Γ = Γ' ∧
     H' = Hl ++ (Ht ++ ((b10, secC nilS nilS nilS nilS nilS nilS nilS) :: (b5, layC l) :: H)) ∧ m = sp.length - k ∧ k ≤ sp.length ∧
     Ow 1 vl (lstsT l (sp.take k)).length (bytesV (lstsT l (sp.take k))) Hl ∧ Ow 1 vt k ((atsS l (bgn l) (sp.take k)).map fun (n : Nat) => Value.int .i64 (n : Int)) Ht)
    ⟨0, _, [(b26, cel [] 5)], _, [(b27, cel [] 3)], rfl, rfl, rfl, rfl, Nat.zero_le _, Ow.lit (s := 1) (b := b26) (k := 0) (l := []) (T := 5) rfl, Ow.lit (s := 1) (b := b27) (k := 0) (l := []) (T := 3) rfl⟩ sr_ (by (try simp only [List.append_assoc, List.nil_append, List.cons_append]); exact sn_) ?_
  rintro m R' Γ' H' ⟨k, vl, Hl, vt, Ht, rfl, rfl, rfl, rfl, hk, hvl, hvt⟩
  obtain ⟨al, cl, rfl⟩ := Ow.shape hvl
  have hlk := hlst k
  rcases Nat.lt_or_ge k sp.length with hlt | hge
  case inl =>
    obtain ⟨x, hx⟩ : ∃ x, sp[k]? = some x := ⟨_, List.getElem?_eq_getElem hlt⟩
    obtain ⟨bb, oo, c, rfl, hX, hcx⟩ := elemA hA1 hL1 (fun _ _ h => h.len) (w := 5) (by decide) hx
    have hX2 := hX
    obtain ⟨vp, rfl, a0, cap0, cells0, rfl, hcap0, hA0, hL0⟩ := hX
    have hsx := hspn x (List.mem_of_getElem? hx)
    have htk : sp.take (k + 1) = sp.take k ++ [x] := by rw [List.take_add_one, hx]; rfl
    have hwi : IntKind.i64.wrap ((k : Int) + 1) = (k : Int) + 1 := w_i64 (by omega) (by omega)
    have hwa : IntKind.i64.wrap ((bgn l : Int) + ((lstsT l (sp.take k)).length : Int)) = ((bgn l + (lstsT l (sp.take k)).length : Nat) : Int) := by rw [w_i64 (by omega) (by omega)]; omega
    refine gz_ ?_
    refine WC.condT rfl (by first | rfl | exact decide_eq_true (by omega) | (simp; (first | done | fail)) | (simp; omega)) ?_
    refine gz_ ?_
    (refine WL.alloc tab_ok rfl rfl ?_; intro b16)
    refine gz_ ?_
    rw [hwa]
    (refine WL.lit tab_ok rfl rfl rfl rfl rfl rfl rfl spi_ rfl ?_; intro b45)
    refine gz_ ?_
    refine WL.append tab_ok rfl rfl rfl rfl rfl rfl rfl rfl hvt tk_ ((Ow.lit (s := 1) (b := b45) (k := 1) (l := [.int .i64 ((bgn l + (lstsT l (sp.take k)).length : Nat) : Int)]) (T := 3) rfl).src tab_ok rfl (by ((repeat (first | apply Tk.one | apply Tk.skip | apply Tk.over)); (first | done | fail))) (fun y hy => by rw [List.mem_singleton.1 hy]; rfl)) (by omega) (by omega) (fun vt2 Ht2 hvt2 => ?_)
    have hvt3 : Ow 1 vt2 (k + 1) ((atsS l (bgn l) (sp.take (k + 1))).map fun (n : Nat) => Value.int .i64 (n : Int)) Ht2 := by rw [htk, atsS_snoc, List.map_append]; exact hvt2
    refine gz_ ?_
    cases hl : x.lst with
    | true =>
      rw [hl] at hX2
      refine gz_ ?_
      refine WL.call rfl Tryz.call27 rfl rfl (by exact (listText_ok (l := l) hX2 hsx hl)) ?_
      rintro v7 _ _ - ⟨rfl, H7, how7, rfl⟩
      have h7 := lstZ_len hsx
      have e7 : lstZ l x = lstT l x := by rw [lstZ, if_pos hl]
      rw [e7] at h7
      obtain ⟨a7, c7, rfl⟩ := Ow.shape how7
      refine gz_ ?_
      refine WL.append tab_ok rfl rfl rfl rfl rfl rfl rfl rfl hvl tk_ (how7.src tab_ok rfl tk_ one_bytes) (by omega) (by omega) (fun v8 Hs8 how8 => ?_)
      rw [← bytesV_append] at how8
      refine gz_ ?_
      exact WE.again ⟨k + 1, _, Hs8, _, Ht2, rfl, rfl, rfl, rfl, hlt, how8.to (by rw [htk]; simp [lstsT, e7]), hvt3⟩ (by omega) ⟨rfl, rfl, rfl, rfl, rfl, rfl, rfl, rfl, rfl, rfl, rfl, congrArg (fun z => some (Value.int .i64 z)) hwi, trivial⟩ sn_
    | false =>
      refine gz_ ?_
      exact WE.again ⟨k + 1, _, Hl, _, Ht2, rfl, rfl, rfl, rfl, hlt, hvl.to (by rw [htk]; simp [lstsT, lstZ, hl]), hvt3⟩ (by omega) ⟨rfl, rfl, rfl, rfl, rfl, rfl, rfl, rfl, rfl, rfl, rfl, congrArg (fun z => some (Value.int .i64 z)) hwi, trivial⟩ sn_
  case inr =>
    have ek : k = sp.length := by omega
    subst ek
    rw [List.take_length] at hvl hvt hlk
    rw [List.take_length]
    refine gz_ ?_
    refine WC.condF rfl (decide_eq_false (by omega)) ?_
    refine WC.keep hvt tk_ (fun Γ1 hle1 him => ?_)
    have hats : Arr Γ1 IntC vt (atsS l (bgn l) sp) := Im.arr (by rw [atsS_length]; exact him) (ints_lis _)
    refine gz_ ?_
    (refine WL.alloc tab_ok rfl rfl ?_; intro b17)
    refine gz_ ?_
    (refine WL.lit tab_ok rfl rfl rfl rfl rfl rfl rfl spi_ rfl ?_; intro b56)
    refine gz_ ?_
    refine WL.append tab_ok rfl rfl rfl rfl rfl rfl rfl rfl (Ow.lit (s := 1) (b := b56) (k := 0) (l := []) (T := 5) rfl) (by ((repeat (first | apply Tk.one | apply Tk.skip | apply Tk.over)); (first | done | fail))) ((Ow.nil (s := 1)).src tab_ok rfl (Tk.here (Hs := [])) (fun y hy => by simp at hy)) (by decide) (by decide) (fun vl0 Hl0 hvl0 => ?_)
    obtain ⟨al0, cl0, rfl⟩ := Ow.shape hvl0
    refine gz_ ?_
    (refine WL.box rfl spi_ rfl ?_; intro pt)
    refine gz_ ?_
    (refine WL.lit tab_ok rfl rfl rfl rfl rfl rfl rfl spi_ rfl ?_; intro b61)
    refine gz_ ?_
    have hUl : (mkU l sp us).length = us.length := unisS_length atsS_length hsl
    have hU_ : ∀ k, ∀ u ∈ unisS l (atsS l (bgn l) sp) sp (us.take k), UniK u := fun k u hu => hU u (List.mem_of_mem_take (by rw [← unisS_pre] at hu; exact hu))
    have e0 : unisS l (atsS l (bgn l) sp) sp (us.take 0) = [] := by rw [List.take_zero]; generalize atsS l (bgn l) sp = ks; cases ks <;> cases sp <;> rfl
    have hWu := hok.light
    have hWk : ∀ k, sumBy wU (unisS l (atsS l (bgn l) sp) sp (us.take k)) ≤ 1048576 + 256 := fun k => by
      have h1 := unisS_w (l := l) (atsS l (bgn l) sp) sp (us.take k)
      have h2 := sumBy_take_le wU us k
      rw [List.length_take] at h1; omega
    have hUkl : ∀ k, (unisS l (atsS l (bgn l) sp) sp (us.take k)).length ≤ 4 := fun k => by rw [← unisS_pre, List.length_take]; show min k (mkU l sp us).length ≤ 4; omega
    refine WC.loopE (fun m R' Γ' H' => ∃ i Γi va vi vs vl vf Sa Si Ss Sl Sf fcs, R' = [(1, .slice a1 sp.length cap1), (3, .slice a3 us.length cap3), (5, .pointer (some ⟨b5, 0, none⟩)), (10, .pointer (some ⟨b10, 0, none⟩)), (12, .slice al (lstsT l sp).length cl), (13, vt), (17, .pointer (some ⟨b17, 0, none⟩)), (18, .pointer (some ⟨pt, 0, none⟩)), (19, vf), (62, .slice a2 us.length cap2), (63, .int .i64 (us.length : Int)), (64, .int .i64 ((i : Nat) : Int))] ∧ Γi = Γ' ∧ Γ1.le Γi ∧
       H' = Sf ++ (Hl ++ ((b17, secC va vi nilS nilS nilS nilS nilS) :: (pt, cel [vs, vl] 82) :: (Sa ++ (Si ++ (Ss ++ (Sl ++ ((b10, secC nilS nilS nilS nilS nilS nilS nilS) :: (b5, layC l) :: H))))))) ∧ m = us.length - i ∧ i ≤ us.length ∧
       Ow 1 va (abT (unisS l (atsS l (bgn l) sp) sp (us.take i))).length (bytesV (abT (unisS l (atsS l (bgn l) sp) sp (us.take i)))) Sa ∧
       Ow 1 vi (pusB l.big (pusU l.big 0 0 0 0 (unisS l (atsS l (bgn l) sp) sp (us.take i)))).length (bytesV (pusB l.big (pusU l.big 0 0 0 0 (unisS l (atsS l (bgn l) sp) sp (us.take i))))) Si ∧
       Ow 1 vs (strT (unisS l (atsS l (bgn l) sp) sp (us.take i))).length (bytesV (strT (unisS l (atsS l (bgn l) sp) sp (us.take i)))) Ss ∧
       Ow 1 vl (linT (unisS l (atsS l (bgn l) sp) sp (us.take i))).length (bytesV (linT (unisS l (atsS l (bgn l) sp) sp (us.take i)))) Sl ∧
       Ow 2 vf i fcs Sf ∧ LisC (FndC Γi l.big (mkU l sp us)) (List.range i) fcs)
      ⟨0, Γ1, nilS, nilS, nilS, _, _, [], [], [], Hl0, [(b61, cel [] 48)], [], rfl, rfl, Env.le.rfl' _, rfl, rfl, Nat.zero_le _, (by rw [e0]; exact Ow.nil), (by rw [e0]; exact Ow.nil), (by rw [e0]; exact Ow.nil), (by rw [e0]; exact hvl0), Ow.lit (s := 2) (b := b61) (k := 0) (l := []) (T := 48) rfl, rfl⟩ sr_ (by (try simp only [List.append_assoc, List.nil_append, List.cons_append]); exact sn_) ?_
    clear hvl0 hvt him
    rintro m R' Γ' H' ⟨i, Γi, va, vi, vs, vl, vf, Sa, Si, Ss, Sl, Sf, fcs, rfl, rfl, hlei, rfl, rfl, hi, hva, hvi, hvs, hvlt, hvf, hfcs⟩
    obtain ⟨aA, cA, rfl⟩ := Ow.shape hva
    obtain ⟨aI, cI, rfl⟩ := Ow.shape hvi
    obtain ⟨aS, cS, rfl⟩ := Ow.shape hvs
    obtain ⟨aL, cL, rfl⟩ := Ow.shape hvlt
    obtain ⟨aF, cF, rfl⟩ := Ow.shape hvf
    rcases Nat.lt_or_ge i us.length with hlt | hge
    case inr =>
      have ei : i = us.length := by omega
      subst ei
      have hUd : unisS l (atsS l (bgn l) sp) sp (us.take us.length) = mkU l sp us := by rw [List.take_length]; rfl
      rw [hUd] at hva hvi hvs hvlt
      rw [hUd]
      have w6 := hlst sp.length
      rw [List.take_length] at w6
      have hleA := hle1.trans hlei
      refine gz_ ?_
      refine WC.condF rfl (decide_eq_false (by omega)) ?_
      refine gz_ ?_
      (refine WL.lit tab_ok rfl rfl rfl rfl rfl rfl rfl spi_ rfl ?_; intro bd)
      refine gz_ ?_
      by_cases h4 : 4 < l.vers
      · refine WC.condT rfl (decide_eq_true h4) ?_
        refine gz_ ?_
        refine WC.draw 9 (.take 0 (.take 1 (.take 2 (.take 3 (.one 4 (.take 5 (.one 6 (.one 7 (.take 8 (.one 9 .done)))))))))) ((b5, _) :: (b17, _) :: []) mixed (by (repeat (first | exact trivial | refine ⟨⟨_, pk_⟩, ?_⟩ | exact subH_self _ | apply subH_cons)); (first | done | fail)) (by decide +kernel) ?_
        refine dz_ ?_
        refine WL.call rfl Tryz.call26 rfl rfl (by exact (listsHead_ok (l := l) (body := lstsT l sp) hz hvl tk_ (by omega))) ?_
        rintro vh _ _ - ⟨rfl, Hh, hh, rfl⟩
        obtain ⟨ahh, chh, rfl⟩ := Ow.shape hh
        refine dz_ ?_
        (refine WL.lit tab_ok rfl rfl rfl rfl rfl rfl rfl spi_ rfl ?_; intro be)
        refine dz_ ?_
        refine WL.append tab_ok rfl rfl rfl rfl rfl rfl rfl rfl (Ow.lit (s := 2) (b := bd) (k := 1) (l := [.string sLineStr, .slice aL (linT (mkU l sp us)).length cL]) (T := 88) rfl) (by ((repeat (first | apply Tk.one | apply Tk.skip | apply Tk.over)); (first | done | fail))) ((Ow.lit (s := 2) (b := be) (k := 1) (l := [.string sRngLists, .slice ahh (headT l (lstsT l sp)).length chh]) (T := 88) rfl).src tab_ok rfl (by ((repeat (first | apply Tk.one | apply Tk.skip | apply Tk.over)); (first | done | fail))) (fun y hy => by simp only [List.mem_cons, List.not_mem_nil, or_false] at hy; rcases hy with rfl | rfl <;> rfl)) (by omega) (by omega) (fun vd2 Hd2 hvd2 => ?_)
        obtain ⟨bd2, cd2, rfl, hcd2, -⟩ := hvd2.some (by decide)
        refine dz_ ?_
        refine gz_ ?_
        refine WE.keep hva tk_ (fun Γ2 k2 m2 => ?_)
        refine WE.keep hvi tk_ (fun Γ3 k3 m3 => ?_)
        refine WE.keep hvs tk_ (fun Γ4 k4 m4 => ?_)
        refine WE.keep hvlt tk_ (fun Γ5 k5 m5 => ?_)
        refine WE.keep hh tk_ (fun Γ6 k6 m6 => ?_)
        refine WE.keep hvd2 tk_ (fun Γ7 k7 m7 => ?_)
        refine WE.keep hvf tk_ (fun Γ8 k8 m8 => ?_)
        obtain ⟨hc7, g7⟩ := Im.cells m7
        have q7 := k8
        have q6 := k7.trans q7
        have q5 := k6.trans q6
        have q4 := k5.trans q5
        have q3 := k4.trans q4
        have q2 := k3.trans q3
        have q1 := k2.trans q2
        refine WE.re (H2 := (b10, secC (.slice aA (abT (mkU l sp us)).length cA) (.slice aI (pusB l.big (pusU l.big 0 0 0 0 (mkU l sp us))).length cI) nilS nilS (.slice aS (strT (mkU l sp us)).length cS) (.slice (some ⟨bd2, 0, none⟩) (1 + 1) cd2) nilS) :: H) sn_ ?_
        refine end_ct tab_ok rfl rfl rfl rfl rfl Pick.here rfl (hleA.trans q1) ⟨_, _, rfl, ?_, Im.arr (by rw [List.length_range]; exact m8) (hfcs.imp fun _ _ h => h.mono q1), rfl⟩
        rw [if_pos h4, if_pos h4]
        exact ⟨_, _, _, _, _, _, rfl, (m2.mono q2).byt, (m3.mono q3).byt, byt_nil, byt_nil, (m4.mono q4).byt,
          ⟨bd2, cd2, _, q7.cell (g7 0 _ rfl), q7.cell (g7 1 _ rfl), (m5.mono q5).byt, rfl, hc7, _, q7.cell (g7 2 _ rfl), q7.cell (g7 3 _ rfl), (m6.mono q6).byt⟩⟩
      · refine WC.condF rfl (decide_eq_false h4) ?_
        refine gz_ ?_
        refine WE.keep hva tk_ (fun Γ2 k2 m2 => ?_)
        refine WE.keep hvi tk_ (fun Γ3 k3 m3 => ?_)
        refine WE.keep hvs tk_ (fun Γ4 k4 m4 => ?_)
        refine WE.keep hvlt tk_ (fun Γ5 k5 m5 => ?_)
        refine WE.keep hvl tk_ (fun Γ6 k6 m6 => ?_)
        refine WE.keep (Ow.lit (s := 2) (b := bd) (k := 1) (l := [.string sLineStr, .slice aL (linT (mkU l sp us)).length cL]) (T := 88) rfl) (by ((repeat (first | apply Tk.one | apply Tk.skip | apply Tk.over)); (first | done | fail))) (fun Γ7 k7 m7 => ?_)
        refine WE.keep hvf tk_ (fun Γ8 k8 m8 => ?_)
        obtain ⟨hc7, g7⟩ := Im.cells m7
        have q7 := k8
        have q6 := k7.trans q7
        have q5 := k6.trans q6
        have q4 := k5.trans q5
        have q3 := k4.trans q4
        have q2 := k3.trans q3
        have q1 := k2.trans q2
        refine WE.re (H2 := (b10, secC (.slice aA (abT (mkU l sp us)).length cA) (.slice aI (pusB l.big (pusU l.big 0 0 0 0 (mkU l sp us))).length cI) nilS (.slice al (lstsT l sp).length cl) (.slice aS (strT (mkU l sp us)).length cS) (.slice (some ⟨bd, 0, none⟩) 1 1) nilS) :: H) sn_ ?_
        refine end_ct tab_ok rfl rfl rfl rfl rfl Pick.here rfl (hleA.trans q1) ⟨_, _, rfl, ?_, Im.arr (by rw [List.length_range]; exact m8) (hfcs.imp fun _ _ h => h.mono q1), rfl⟩
        rw [if_neg h4, if_neg h4]
        exact ⟨_, _, _, _, _, _, rfl, (m2.mono q2).byt, (m3.mono q3).byt, byt_nil, (m6.mono q6).byt, (m4.mono q4).byt,
          ⟨bd, 1, _, q7.cell (g7 0 _ rfl), q7.cell (g7 1 _ rfl), (m5.mono q5).byt, rfl, hc7⟩⟩
    case inl =>
      generalize hUd : unisS l (atsS l (bgn l) sp) sp (us.take i) = Ui at hva hvi hvs hvlt
      have hUi : ∀ u ∈ Ui, UniK u := hUd ▸ hU_ i
      have w1 := abT_w hUi
      have w2 := pusU_w (big := l.big) (abo := 0) (base := 0) (so := 0) (lo := 0) hUi
      have w3 := strT_w Ui
      have w4 := linT_w Ui
      have w5 : sumBy wU Ui ≤ 1048576 + 256 := hUd ▸ hWk i
      have w6 : Ui.length ≤ 4 := hUd ▸ hUkl i
      obtain ⟨u, hu⟩ : ∃ u, us[i]? = some u := ⟨_, List.getElem?_eq_getElem hlt⟩
      obtain ⟨x, hx⟩ : ∃ x, sp[i]? = some x := ⟨_, List.getElem?_eq_getElem (by omega)⟩
      obtain ⟨hsx, huv, huw, huz, hou⟩ := hok.each i x u hx hu
      have hleA := hle1.trans hlei
      have hkat := atsS_get (l := l) (sp := sp) (b := bgn l) (i := i) (by omega)
      have hkl := hlst i
      have hbgi : bgn l + (lstsT l (sp.take i)).length < 2147483648 := by omega
      generalize hkd : bgn l + (lstsT l (sp.take i)).length = k at hkat hbgi
      have hUk : UniK (uniS l x k u) := hU _ (List.mem_of_getElem? (unisS_get (l := l) hkat hx hu))
      have hsnoc := unisS_take (l := l) hkat hx hu
      rw [hUd] at hsnoc
      generalize habd : abT Ui = ab at hva w1
      generalize hinfd : pusB l.big (pusU l.big 0 0 0 0 Ui) = inf at hvi w2
      generalize hssd : strT Ui = ss at hvs w3
      generalize hlld : linT Ui = ll at hvlt w4
      obtain ⟨bb, oo, c, rfl, hX, hcx⟩ := elemA (hA2.mono hleA) (hL2.imp fun _ _ h => UniC.mono hleA h) (fun _ _ h => h.len) (w := 4) (by decide) hu
      obtain ⟨vn, rfl, an, capn, cellsn, rfl, hcapn, hAn, hLn⟩ := hX
      obtain ⟨bs, os, cx, rfl, hXs, hcs⟩ := elemA (hA1.mono hleA) (hL1.imp fun _ _ h => SpnC.mono hleA h) (fun _ _ h => h.len) (w := 5) (by decide) hx
      have hXs2 := hXs
      obtain ⟨vps, rfl, aps, capps, cellsps, rfl, hcapps, hAps, hLps⟩ := hXs
      obtain ⟨atl, ctl, cellst, rfl, hctl, hAt, hLt⟩ := hats
      obtain ⟨bt, ot, ct, rfl, hCt, hct⟩ := elemA (hAt.mono hlei) hLt (fun _ _ h => IntC.len h) (w := 1) (by decide) hkat
      cases hCt
      have hct2 : Γi.cell bt (ot + Int.toNat ((i : Nat) : Int) * 1) = some (.int .i64 (k : Int)) := cellsAt_get hct 0 _ rfl
      obtain ⟨b3, o3, rfl, hc3⟩ := hA3 i nilS (by rw [List.getElem?_replicate]; simp [hlt])
      have hc32 : Γi.cell b3 (o3 + Int.toNat ((i : Nat) : Int) * 1) = some nilS := by rw [Int.toNat_natCast, Nat.mul_one]; exact hleA.cell hc3
      have hwi : IntKind.i64.wrap ((i : Int) + 1) = (i : Int) + 1 := w_i64 (by omega) (by omega)
      have hatl : (atsS l (bgn l) sp).length = sp.length := atsS_length
      have hnn := hou.n1
      refine gz_ ?_
      refine WC.condT rfl (by first | rfl | exact decide_eq_true (by omega) | (simp; (first | done | fail)) | (simp; omega)) ?_
      refine gz_ ?_
      (refine WL.alloc tab_ok rfl rfl ?_; intro b21)
      refine gz_ ?_
      (refine WL.lit tab_ok rfl rfl rfl rfl rfl rfl rfl spi_ rfl ?_; intro b69)
      refine gz_ ?_
      refine WL.append tab_ok rfl rfl rfl rfl rfl rfl rfl rfl (Ow.lit (s := 4) (b := b69) (k := 0) (l := []) (T := 61) rfl) (by ((repeat (first | apply Tk.one | apply Tk.skip | apply Tk.over)); (first | done | fail))) (Im.src tab_ok rfl ⟨an, capn, rfl, hcapn, hAn⟩ (hLn.length fun _ _ h => NodC.len h) (by decide) (LisC.one' (fun _ _ h => NodC.one h) hLn)) (by omega) (by omega) (fun vN HN hvN => ?_)
      rw [List.nil_append, Nat.zero_add] at hvN
      refine gz_ ?_
      refine WC.draw 18 (.take 1 (.take 2 (.take 3 (.take 4 (.take 6 (.take 7 (.take 8 (.take 9 (.take 10 (.take 11 (.take 12 (.take 13 (.take 14 (.one 0 (.one 5 (.one 15 (.one 16 (.one 17 .done)))))))))))))))))) ((b5, _) :: []) mixed (by (repeat (first | exact trivial | refine ⟨⟨_, pk_⟩, ?_⟩ | exact subH_self _ | apply subH_cons)); (first | done | fail)) (by decide +kernel) ?_
      refine dz_ ?_
      (refine WL.lit tab_ok rfl rfl rfl rfl rfl rfl rfl spi_ rfl ?_; intro b73)
      refine dz_ ?_
      refine WL.append tab_ok rfl rfl rfl rfl rfl rfl rfl rfl (Ow.lit (s := 6) (b := b73) (k := 0) (l := []) (T := 63) rfl) (by ((repeat (first | apply Tk.one | apply Tk.skip | apply Tk.over)); (first | done | fail))) ((Ow.nil (s := 6)).src tab_ok rfl (Tk.here (Hs := [])) (fun y hy => by simp at hy)) (by decide) (by decide) (fun vA0 HA0 hvA0 => ?_)
      refine dz_ ?_
      refine WL.call rfl Tryz.call28 rfl rfl (by exact (spanAttrs_ok (l := l) (k := k) hXs2 hsx hbgi)) ?_
      rintro vA1 _ _ - ⟨rfl, HA1, hvA1, rfl⟩
      refine dz_ ?_
      refine WL.append tab_ok rfl rfl rfl rfl rfl rfl rfl rfl hvA0 tk_ (hvA1.src tab_ok rfl tk_ (LisC.one' (P := AttC Γi) (fun _ _ h => AttC.one h) (spanA_lis hsx hbgi))) (by decide) (by decide) (fun vA HA hvA => ?_)
      rw [List.append_nil, List.nil_append] at hvA
      refine dz_ ?_
      have hun : 0 < u.nods.length := hou.n0
      obtain ⟨bN, cN, rfl, hcN, hrdN⟩ := hvN.some hun
      obtain ⟨n0, rn, hns⟩ : ∃ n0 rn, u.nods = n0 :: rn := by
        cases h : u.nods with
        | nil => rw [h] at hun; simp at hun
        | cons a b => exact ⟨a, b, rfl⟩
      have hL0 := hLn
      rw [hns] at hL0
      obtain ⟨cn0, cnr, rfl, hcn0, hcnr⟩ := hL0
      obtain ⟨v0, rfl, aa0, capa0, cellsa0, rfl, hcapa0, hAa0, hLa0⟩ := hcn0
      obtain ⟨spN, TN, fzN, rfl, -, hlN, hspN, hfzN⟩ := Ow.row' hvN
      refine gz_ ?_
      have hna : n0.atts.length ≤ 50 := (hou.nod n0 (by rw [hns]; exact List.mem_cons_self ..)).na
      refine WC.loopE (fun m R' Γ' H' => ∃ j vA HA ca, R' = [(1, .slice (some ⟨bs, os, none⟩) sp.length cap1), (3, .slice (some ⟨b3, o3, none⟩) us.length cap3), (5, .pointer (some ⟨b5, 0, none⟩)), (10, .pointer (some ⟨b10, 0, none⟩)), (12, .slice al (lstsT l sp).length cl), (13, .slice (some ⟨bt, ot, none⟩) (atsS l (bgn l) sp).length ctl), (17, .pointer (some ⟨b17, 0, none⟩)), (18, .pointer (some ⟨pt, 0, none⟩)), (19, .slice aF i cF), (20, .int .i64 ((i : Nat) : Int)), (22, .slice (some ⟨bN, 0, none⟩) u.nods.length cN), (23, vA), (62, .slice (some ⟨bb, oo, none⟩) us.length cap2), (63, .int .i64 (us.length : Int)), (64, .int .i64 ((i : Nat) : Int)), (93, .slice aa0 n0.atts.length capa0), (94, .int .i64 (n0.atts.length : Int)), (95, .int .i64 ((j : Nat) : Int))] ∧ Γi = Γ' ∧
         H' = HA ++ ((bN, celF ((.int .i64 n0.tag :: .bool n0.ch :: .bool n0.sib :: .slice aa0 n0.atts.length capa0 :: cnr) ++ spN) TN fzN) :: (Sf ++ (Hl ++ ((b17, secC (.slice aA ab.length cA) (.slice aI inf.length cI) nilS nilS nilS nilS nilS) :: (pt, cel [.slice aS ss.length cS, .slice aL ll.length cL] 82) :: (Sa ++ (Si ++ (Ss ++ (Sl ++ ((b10, secC nilS nilS nilS nilS nilS nilS nilS) :: (b5, layC l) :: H))))))))) ∧ m = n0.atts.length - j ∧ j ≤ n0.atts.length ∧
         LisC (AttC Γi) (spanA l x k ++ (n0.atts.take j).filter keepA) ca ∧ Ow 6 vA (spanA l x k ++ (n0.atts.take j).filter keepA).length ca HA)
        ⟨0, vA, HA, attVs (spanA l x k), rfl, rfl, rfl, rfl, Nat.zero_le _, by simpa using spanA_lis hsx hbgi, by simpa [spanA_len] using hvA⟩ sr_ (by (try simp only [List.append_assoc, List.nil_append, List.cons_append]); exact sn_) ?_
      clear hvA hvA0 hvA1
      rintro m R' Γ' H' ⟨j, vA, HA, ca, rfl, rfl, rfl, rfl, hj, hca, hvA⟩
      have hfl := List.length_filter_le keepA (n0.atts.take j)
      rw [List.length_take] at hfl
      have hsl2 := spanA_len l x k
      rcases Nat.lt_or_ge j n0.atts.length with hjlt | hjge
      case inl =>
        obtain ⟨y, hy⟩ : ∃ y, n0.atts[j]? = some y := ⟨_, List.getElem?_eq_getElem hjlt⟩
        obtain ⟨byy, oy, cy, rfl, hY, hcy⟩ := elemA hAa0 hLa0 (fun _ _ h => AttC.len h) (w := 6) (by decide) hy
        have hY2 := hY
        obtain ⟨vby, rfl, ⟨aby, cby, rfl, -, -⟩, hyn⟩ := hY
        have hwj : IntKind.i64.wrap ((j : Int) + 1) = (j : Int) + 1 := w_i64 (by omega) (by omega)
        refine gz_ ?_
        refine WC.condT rfl (by first | rfl | exact decide_eq_true (by omega) | (simp; (first | done | fail)) | (simp; omega)) ?_
        refine gz_ ?_
        (refine WL.alloc tab_ok rfl rfl ?_; intro b25)
        refine gs_ ?_
        refine WE.then_ ?_
        refine WC.seq ?_
        refine WC.cutM (fun R' Γ' H' => R' = [(1, .slice (some ⟨bs, os, none⟩) sp.length cap1), (3, .slice (some ⟨b3, o3, none⟩) us.length cap3), (5, .pointer (some ⟨b5, 0, none⟩)), (10, .pointer (some ⟨b10, 0, none⟩)), (12, .slice al (lstsT l sp).length cl), (13, .slice (some ⟨bt, ot, none⟩) (atsS l (bgn l) sp).length ctl), (17, .pointer (some ⟨b17, 0, none⟩)), (18, .pointer (some ⟨pt, 0, none⟩)), (19, .slice aF i cF), (20, .int .i64 ((i : Nat) : Int)), (22, .slice (some ⟨bN, 0, none⟩) u.nods.length cN), (23, vA), (25, .pointer (some ⟨b25, 0, none⟩)), (62, .slice (some ⟨bb, oo, none⟩) us.length cap2), (63, .int .i64 (us.length : Int)), (64, .int .i64 ((i : Nat) : Int)), (93, .slice (some ⟨byy, oy, none⟩) n0.atts.length capa0), (94, .int .i64 (n0.atts.length : Int)), (95, .int .i64 ((j : Nat) : Int)), (126, .bool (keepA y))] ∧ Γi = Γ' ∧ H' = (b25, cel [.int .i64 y.attr, .int .i64 y.form, .bool y.ind, .int .u64 (y.n : Int), .string y.s, .slice aby y.b.length cby] 63) :: (HA ++ ((bN, celF ((.int .i64 n0.tag :: .bool n0.ch :: .bool n0.sib :: .slice (some ⟨byy, oy, none⟩) n0.atts.length capa0 :: cnr) ++ spN) TN fzN) :: (Sf ++ (Hl ++ ((b17, secC (.slice aA ab.length cA) (.slice aI inf.length cI) nilS nilS nilS nilS nilS) :: (pt, cel [.slice aS ss.length cS, .slice aL ll.length cL] 82) :: (Sa ++ (Si ++ (Ss ++ (Sl ++ ((b10, secC nilS nilS nilS nilS nilS nilS nilS) :: (b5, layC l) :: H))))))))))) ?_ ?_
        · refine gz_ ?_
          cases e17 : (y.attr != 17) with
          | false =>
            rw [show keepA y = false from by simp [keepA, e17]]
            refine gz_ ?_
            exact WE.mid ⟨rfl, rfl, rfl⟩ sr_ sn_
          | true =>
            refine gz_ ?_
            cases e18 : (y.attr != 18) with
            | false =>
              rw [show keepA y = false from by simp [keepA, e17, e18]]
              refine gz_ ?_
              exact WE.mid ⟨rfl, rfl, rfl⟩ sr_ sn_
            | true =>
              refine gz_ ?_
              cases e16 : (y.attr != 16) with
              | false =>
                rw [show keepA y = false from by simp [keepA, e17, e18, e16]]
                refine gz_ ?_
                exact WE.mid ⟨rfl, rfl, rfl⟩ sr_ sn_
              | true =>
                refine gz_ ?_
                cases e82 : (y.attr != 82) with
                | false =>
                  rw [show keepA y = false from by simp [keepA, e17, e18, e16, e82]]
                  refine gz_ ?_
                  exact WE.mid ⟨rfl, rfl, rfl⟩ sr_ sn_
                | true =>
                  refine gz_ ?_
                  cases e85 : (y.attr != 85) with
                  | false =>
                    rw [show keepA y = false from by simp [keepA, e17, e18, e16, e82, e85]]
                    refine gz_ ?_
                    exact WE.mid ⟨rfl, rfl, rfl⟩ sr_ sn_
                  | true =>
                    refine gz_ ?_
                    cases e27 : (y.attr != 27) with
                    | false =>
                      rw [show keepA y = false from by simp [keepA, e17, e18, e16, e82, e85, e27]]
                      refine gz_ ?_
                      exact WE.mid ⟨rfl, rfl, rfl⟩ sr_ sn_
                    | true =>
                      rw [show keepA y = true from by simp [keepA, e17, e18, e16, e82, e85, e27]]
                      refine gz_ ?_
                      exact WE.mid ⟨rfl, rfl, rfl⟩ sr_ sn_
        rintro _ _ _ ⟨rfl, rfl, rfl⟩
        have htj : n0.atts.take (j + 1) = n0.atts.take j ++ [y] := by rw [List.take_add_one, hy]; rfl
        cases hk : keepA y with
        | false =>
          refine gz_ ?_
          have e : spanA l x k ++ (n0.atts.take (j + 1)).filter keepA = spanA l x k ++ (n0.atts.take j).filter keepA := by rw [htj, List.filter_append]; simp [hk]
          exact WE.again ⟨j + 1, vA, HA, ca, rfl, rfl, rfl, rfl, hjlt, by rw [e]; exact hca, by rw [e]; exact hvA⟩ (by omega) ⟨rfl, rfl, rfl, rfl, rfl, rfl, rfl, rfl, rfl, rfl, rfl, rfl, rfl, rfl, rfl, rfl, rfl, congrArg (fun z => some (Value.int .i64 z)) hwj, trivial⟩ sn_
        | true =>
          refine gz_ ?_
          (refine WL.lit tab_ok rfl rfl rfl rfl rfl rfl rfl spi_ rfl ?_; intro b129)
          refine gz_ ?_
          refine WL.append tab_ok rfl rfl rfl rfl rfl rfl rfl rfl hvA tk_ ((Ow.lit (s := 6) (b := b129) (k := 1) (l := [.int .i64 y.attr, .int .i64 y.form, .bool y.ind, .int .u64 (y.n : Int), .string y.s, .slice aby y.b.length cby]) (T := 63) rfl).src tab_ok rfl (by ((repeat (first | apply Tk.one | apply Tk.skip | apply Tk.over)); (first | done | fail))) (AttC.one hY2)) (by rw [List.length_append]; omega) (by rw [List.length_append]; omega) (fun vB HB hvB => ?_)
          refine gz_ ?_
          have e : spanA l x k ++ (n0.atts.take (j + 1)).filter keepA = (spanA l x k ++ (n0.atts.take j).filter keepA) ++ [y] := by rw [htj, List.filter_append]; simp [hk]
          exact WE.again ⟨j + 1, vB, HB, _, rfl, rfl, rfl, rfl, hjlt, by rw [e]; exact hca.append (LisC.one hY2), by rw [e, List.length_append]; exact hvB⟩ (by omega) ⟨rfl, rfl, rfl, rfl, rfl, rfl, rfl, rfl, rfl, rfl, rfl, rfl, rfl, rfl, rfl, rfl, rfl, congrArg (fun z => some (Value.int .i64 z)) hwj, trivial⟩ sn_
      case inr =>
        have ej : j = n0.atts.length := by omega
        subst ej
        rw [List.take_length] at hvA hca
        obtain ⟨avA, cvA, rfl⟩ := Ow.shape hvA
        refine gz_ ?_
        refine WC.condF rfl (decide_eq_false (by omega)) ?_
        refine WC.keep hvA tk_ (fun Γ2 hle2 himA => ?_)
        refine gz_ ?_
        refine WL.stN tab_ok rfl rfl rfl pk_ hfzN ?_ (l' := (.int .i64 17 :: .bool n0.ch :: .bool false :: .slice avA (spanA l x k ++ n0.atts.filter keepA).length cvA :: cnr) ++ spN) rfl rfl rfl ?_
        · show 4 ≤ _; simp only [List.length_append, List.length_cons, List.length_nil]; omega
        have hN2 : Ow 4 (.slice (some ⟨bN, 0, none⟩) u.nods.length cN) u.nods.length (.int .i64 17 :: .bool n0.ch :: .bool false :: .slice avA (spanA l x k ++ n0.atts.filter keepA).length cvA :: cnr) [(bN, celF ((.int .i64 17 :: .bool n0.ch :: .bool false :: .slice avA (spanA l x k ++ n0.atts.filter keepA).length cvA :: cnr) ++ spN) TN fzN)] :=
          Ow.row hcN (by simpa using hlN) (by simpa using hspN) (by simpa using hfzN)
        refine WL.keep hN2 (by ((repeat (first | apply Tk.one | apply Tk.skip | apply Tk.over)); (first | done | fail))) (fun Γ3 hle3 himN => ?_)
        have hleB := hle2.trans hle3
        have hUC : UniC Γ3 (uniS l x k u) [.int .i64 l.vers, .bool l.wide, .int .i64 l.size, .slice (some ⟨bN, 0, none⟩) u.nods.length cN] := by
          refine ⟨_, rfl, ?_⟩
          refine Im.arr (cells := .int .i64 17 :: .bool n0.ch :: .bool false :: .slice avA (spanA l x k ++ n0.atts.filter keepA).length cvA :: cnr) ?_ ?_
          · show Im Γ3 _ (nodsS l x k u.nods).length _
            rw [nodsS_length]; exact himN
          · show LisC (NodC Γ3) (nodsS l x k u.nods) _
            rw [hns]
            exact ⟨[.int .i64 17, .bool n0.ch, .bool false, .slice avA (spanA l x k ++ n0.atts.filter keepA).length cvA], cnr, rfl, ⟨_, rfl, Im.arr (himA.mono hle3) (hca.imp fun _ _ h => h.mono hleB)⟩, hcnr.imp fun _ _ h => h.mono hleB⟩
        have hnl : (uniS l x k u).nods.length = u.nods.length := nodsS_length l x k u.nods
        have hwu := uniS_w l x k u
        have hli := hou.light
        refine gz_ ?_
        refine WC.draw 11 (.take 0 (.take 1 (.take 2 (.take 4 (.take 5 (.take 6 (.one 3 (.one 7 (.one 8 (.one 9 (.one 10 .done))))))))))) ((b5, _) :: []) mixed (by (repeat (first | exact trivial | refine ⟨⟨_, pk_⟩, ?_⟩ | exact subH_self _ | apply subH_cons)); (first | done | fail)) (by decide +kernel) ?_
        refine dz_ ?_
        refine WL.call rfl Tryz.call30 rfl rfl (by exact (unitOf_ok (l := l))) ?_
        rintro _ _ _ - ⟨rfl, rfl, rfl⟩
        refine dz_ ?_
        refine WL.call rfl Tryz.call29 rfl rfl (by exact (add_ok (u := uniS l x k u) (big := l.big) hUC hUk.toUniT (pick2Tk4 pk_ pk_ tk_ tk_ tk_ tk_) hva hvi hvs hvlt (by omega) (by omega) (by omega) (by omega))) ?_
        rintro _ Γ5 _ hle5 ⟨ve, Se, ces, va2, vi2, vs2, vl2, Sa2, Si2, Ss2, Sl2, rfl, hve, hces, hva2, hvi2, hvs2, hvl2, rfl⟩
        obtain ⟨ae, ce, rfl⟩ := Ow.shape hve
        refine dz_ ?_
        (refine WL.lit tab_ok rfl rfl rfl rfl rfl rfl rfl spi_ rfl ?_; intro bl)
        refine dz_ ?_
        refine WL.append tab_ok rfl rfl rfl rfl rfl rfl rfl rfl hvf tk_ ((Ow.lit (s := 2) (b := bl) (k := 1) (l := [.int .i64 (inf.length : Int), .slice ae (uniS l x k u).nods.length ce]) (T := 48) rfl).src tab_ok rfl (by ((repeat (first | apply Tk.one | apply Tk.skip | apply Tk.over)); (first | done | fail))) (fun y hy => by simp only [List.mem_cons, List.not_mem_nil, or_false] at hy; rcases hy with rfl | rfl <;> rfl)) (by omega) (by omega) (fun vf2 Sf2 hvf2 => ?_)
        refine dz_ ?_
        refine gz_ ?_
        refine WE.keep hve tk_ (fun Γ6 hle6 himE => ?_)
        have hleC := hleB.trans (hle5.trans hle6)
        have hbase : baseU l.big (mkU l sp us) i = inf.length := by unfold baseU mkU; rw [unisS_pre, hUd, hinfd]
        have hstr : (strT ((mkU l sp us).take i)).length = ss.length := by unfold mkU; rw [unisS_pre, hUd, hssd]
        have hlin : (linT ((mkU l sp us).take i)).length = ll.length := by unfold mkU; rw [unisS_pre, hUd, hlld]
        refine WE.again ⟨i + 1, Γ6, va2, vi2, vs2, vl2, vf2, Sa2, Si2, Ss2, Sl2, Sf2, fcs ++ [.int .i64 (inf.length : Int), .slice ae (uniS l x k u).nods.length ce], rfl, rfl, hlei.trans hleC, rfl, rfl, hlt, ?_, ?_, ?_, ?_, hvf2, ?_⟩ (by omega) ⟨rfl, rfl, rfl, rfl, rfl, rfl, rfl, rfl, rfl, rfl, rfl, congrArg (fun z => some (Value.int .i64 z)) hwi, trivial⟩ sn_
        · exact hva2.to (by rw [hsnoc, ← habd]; simp [abT])
        · exact hvi2.to (by rw [hsnoc, pusU_snoc, pusB_append]; simp only [Nat.zero_add]; rw [habd, hssd, hlld, hinfd, unitE_pu hUk.toUniT]; simp [pusB])
        · exact hvs2.to (by rw [hsnoc, ← hssd]; simp [strT])
        · exact hvl2.to (by rw [hsnoc, ← hlld]; simp [linT])
        · rw [List.range_succ]
          refine (hfcs.imp fun _ _ h => h.mono hleC).append (LisC.one ⟨uniS l x k u, _, unisS_get hkat hx hu, by rw [hbase], ?_⟩)
          rw [hbase, hstr, hlin]
          exact Im.arr (by rw [List.length_range]; exact himE) (hces.imp fun _ _ h => h.mono hle6)
end Go.Proofs.YtdplhbmoidepgaaGreatDoor
namespace Go.Proofs.YtdplhbmoidepgaaGreatDoor
open Go Go.Sl
set_option maxRecDepth 10000
set_option maxHeartbeats 4000000

theorem flat_split {α β : Type} (f : α → List β) : ∀ {l : List α} {i : Nat} {x : α}, l[i]? = some x → ∃ q, l.flatMap f = (l.take i).flatMap f ++ (f x ++ q)
  | [], _, _, h => by simp at h
  | y :: l, 0, x, h => by injection h with h; subst h; exact ⟨_, rfl⟩
  | y :: l, i + 1, x, h => by
    obtain ⟨q, hq⟩ := flat_split f (l := l) (i := i) (x := x) (by simpa using h)
    exact ⟨q, by rw [List.take_succ_cons, List.flatMap_cons, List.flatMap_cons, hq, List.append_assoc]⟩
theorem drop_at {β : Type} {a b c : List β} {n : Nat} (h : c = a ++ b) (hn : n = a.length) : c.drop n = b := by rw [h, hn, List.drop_left]
/-- A unit in its place. -/
def puAt (big : Bool) (U : List Uni) (k : Nat) (u : Uni) : PU := puU u big (abT (U.take k)).length (baseU big U k) (strT (U.take k)).length (linT (U.take k)).length
theorem pusU_get {big : Bool} : ∀ {U : List Uni} {k : Nat} {u : Uni} {abo base so lo : Nat}, U[k]? = some u →
    (pusU big abo base so lo U)[k]? = some (puU u big (abo + (abT (U.take k)).length) (base + (pusB big (pusU big abo base so lo (U.take k))).length) (so + (strT (U.take k)).length) (lo + (linT (U.take k)).length))
  | [], _, _, _, _, _, _, h => by simp at h
  | y :: U, 0, u, abo, base, so, lo, h => by
    injection h with h; subst h
    simp [pusU, abT, strT, linT, pusB]
  | y :: U, k + 1, u, abo, base, so, lo, h => by
    rw [pusU, List.getElem?_cons_succ, pusU_get (by simpa using h), List.take_succ_cons, pusU, pusB]
    simp only [abT, strT, linT, List.flatMap_cons, List.length_append, List.length_cons, List.length_nil, Nat.add_assoc, Nat.zero_add]
theorem puAt_get {big : Bool} {U : List Uni} {k : Nat} {u : Uni} (h : U[k]? = some u) : (pusU big 0 0 0 0 U)[k]? = some (puAt big U k u) := by
  rw [pusU_get h]; simp only [Nat.zero_add]; rfl
theorem pusU_take {big : Bool} : ∀ {U : List Uni} {k abo base so lo : Nat}, (pusU big abo base so lo U).take k = pusU big abo base so lo (U.take k)
  | [], k, _, _, _, _ => by simp [pusU]
  | y :: U, 0, _, _, _, _ => by simp [pusU]
  | y :: U, k + 1, _, _, _, _ => by rw [pusU, List.take_succ_cons, pusU_take, List.take_succ_cons, pusU]
theorem baseU_eq {big : Bool} {U : List Uni} {k : Nat} : baseU big U k = (pusB big ((pusU big 0 0 0 0 U).take k)).length := by rw [pusU_take]; rfl
/-- What is read of an entry. -/
def itsAt (big : Bool) (U : List Uni) (k : Nat) (u : Uni) (i : Nat) (x : Nod) : List Itm :=
  nodI u.vers u.wide u.size big (baseU big U k) ((strT (U.take k)).length + (textS (u.nods.take i)).length) ((linT (U.take k)).length + (textL (u.nods.take i)).length)
    ((plU u big (baseU big U k) (strT (U.take k)).length (linT (U.take k)).length).getD (aft u.nods i) 0) x
/-- How far an entry stands behind a unit's first one. -/
def offN (big : Bool) (U : List Uni) (k : Nat) (u : Uni) (i : Nat) : Nat :=
  sumL (nodL u.vers u.wide u.size big (strT (U.take k)).length (linT (U.take k)).length 0 (u.nods.take i))
theorem die_at {big : Bool} {U : List Uni} {k : Nat} {u : Uni} (hU : ∀ u ∈ U, UniK u) (hk : U[k]? = some u) (hw : (pusB big (pusU big 0 0 0 0 U)).length < 2147483648) (hs : (strT U).length < 2147483648) (hl : (linT U).length < 2147483648)
    {i : Nat} {x : Nod} (hx : u.nods[i]? = some x) (ht : x.tag ≠ 0) :
    ∃ pre post, (puAt big U k u).body = pre ++ (ulebL (abbE i x).code ++ (itexts (itsAt big U k u i x) ++ post)) ∧ pre.length = offN big U k u i ∧
      Die (uctx big (strT U) (linT U) (baseU big U k) (puAt big U k u)) (puAt big U k u).abs (abbE i x) (itsAt big U k u i x) := by
  have hu := hU u (List.mem_of_getElem? hk)
  have hil := (List.getElem?_eq_some_iff.1 hx).1
  have hn1 := hu.n1
  have hv2 := hu.v2
  have hsz := hu.sz
  obtain ⟨pre, post, h1, h2⟩ := finL_split (v := u.vers) (w := u.wide) (z := u.size) (big := big) (base := baseU big U k) (pl := plU u big (baseU big U k) (strT (U.take k)).length (linT (U.take k)).length) (all := u.nods)
    (so := (strT (U.take k)).length) (lo := (linT (U.take k)).length) (k := 0) hx
  rw [Nat.zero_add, nodI_text ht, List.append_assoc] at h1
  refine ⟨pre, post, h1, h2, ?_⟩
  have hsplit := pusB_split big (pusU big 0 0 0 0 U) k
  rw [pusB_drop (puAt_get hk), List.length_append, ← baseU_eq] at hsplit
  have hpl := unitE_len (u := u) (big := big) (abo := (abT (U.take k)).length) (base := baseU big U k) (so := (strT (U.take k)).length) (lo := (linT (U.take k)).length)
  rw [unitE_pu hu.toUniT] at hpl
  have hpl2 : (puB big (puAt big U k u)).length = hdz u big + sumL (nodL u.vers u.wide u.size big (strT (U.take k)).length (linT (U.take k)).length 0 u.nods) := hpl
  have hvv : ((u.vers.toNat : Nat) : Int) = u.vers := by omega
  have hc : uctx big (strT U) (linT U) (baseU big U k) (puAt big U k u) = ⟨u.vers, u.wide, u.size.toNat, baseU big U k, big, strT U, linT U⟩ := by
    show (⟨((u.vers.toNat : Nat) : Int), u.wide, u.size.toNat, baseU big U k, big, strT U, linT U⟩ : Ctx) = _
    rw [hvv]
  rw [hc]
  obtain ⟨q1, g1⟩ := flat_split (fun u : Uni => textS u.nods) hk
  obtain ⟨q2, g2⟩ := flat_split (fun x : Nod => attsS x.atts) hx
  obtain ⟨r1, f1⟩ := flat_split (fun u : Uni => textL u.nods) hk
  obtain ⟨r2, f2⟩ := flat_split (fun x : Nod => attsL x.atts) hx
  have e1 : strT U = (strT (U.take k) ++ textS (u.nods.take i)) ++ (attsS x.atts ++ (q2 ++ q1)) := by
    have : textS u.nods = textS (u.nods.take i) ++ (attsS x.atts ++ q2) := g2
    show U.flatMap (fun u => textS u.nods) = _
    rw [g1, this]; simp [strT]
  have e2 : linT U = (linT (U.take k) ++ textL (u.nods.take i)) ++ (attsL x.atts ++ (r2 ++ r1)) := by
    have : textL u.nods = textL (u.nods.take i) ++ (attsL x.atts ++ r2) := f2
    show U.flatMap (fun u => textL u.nods) = _
    rw [f1, this]; simp [linT]
  have l1 : (strT U).length = (strT (U.take k)).length + (textS (u.nods.take i)).length + (attsS x.atts).length + (q2 ++ q1).length := by rw [e1]; simp only [List.length_append]; omega
  have l2 : (linT U).length = (linT (U.take k)).length + (textL (u.nods.take i)).length + (attsL x.atts).length + (r2 ++ r1).length := by rw [e2]; simp only [List.length_append]; omega
  refine die_nod (c := ⟨u.vers, u.wide, u.size.toNat, baseU big U k, big, strT U, linT U⟩) hx ht (by omega) (hu.nod x (List.mem_of_getElem? hx)) hu.sz rfl hu.v2 (hu.att x (List.mem_of_getElem? hx)) (by show baseU big U k < _; omega)
    (drop_at e1 (by rw [List.length_append])) (drop_at e2 (by rw [List.length_append])) (by omega) (by omega) (fun _ => ?_)
  have haft := aft_le u.nods (Nat.le_of_lt hil)
  have hpll : (plU u big (baseU big U k) (strT (U.take k)).length (linT (U.take k)).length).length = u.nods.length + 1 := by rw [plU, plN_length, nodL_length]
  obtain ⟨nx, hnx⟩ : ∃ o, (plU u big (baseU big U k) (strT (U.take k)).length (linT (U.take k)).length)[aft u.nods i]? = some o := ⟨_, List.getElem?_eq_getElem (by omega)⟩
  have hnv := plN_get hnx
  have hle : sumL ((nodL u.vers u.wide u.size big (strT (U.take k)).length (linT (U.take k)).length 0 u.nods).take (aft u.nods i)) ≤ sumL (nodL u.vers u.wide u.size big (strT (U.take k)).length (linT (U.take k)).length 0 u.nods) := sumBy_take_le _ _ _
  rw [List.getD_eq_getElem?_getD, hnx, Option.getD_some]
  show baseU big U k ≤ nx ∧ nx < _
  omega
/-! ### What Spanned's units come to -/
structure MkR (l : Lay) (sp : List Spn) (us : List Uni) : Prop where
  uni : ∀ u ∈ mkU l sp us, UniK u
  len : (mkU l sp us).length = us.length
  n0 : 0 < us.length
  n4 : us.length ≤ 4
  ab : (abT (mkU l sp us)).length < 2147483648
  inf : (pusB l.big (pusU l.big 0 0 0 0 (mkU l sp us))).length < 2147483648
  str : (strT (mkU l sp us)).length < 2147483648
  lin : (linT (mkU l sp us)).length < 2147483648
  lst : ∀ k, (lstsT l (sp.take k)).length ≤ 8800
  lstA : (lstsT l sp).length ≤ 8800
theorem mkR {l : Lay} {sp : List Spn} {us : List Uni} (hok : OkSpd l sp us) (hn : ∀ u ∈ us, ∀ x ∈ u.nods, ∀ a ∈ x.atts, a.n < 18446744073709551616) : MkR l sp us := by
  have hU := mkU_ok hok hn
  have hlen : (mkU l sp us).length = us.length := unisS_length atsS_length hok.sl
  have h4 := hok.n4
  have hw := unisS_w (l := l) (atsS l (bgn l) sp) sp us
  have hwe : sumBy wU (mkU l sp us) = sumBy wU (unisS l (atsS l (bgn l) sp) sp us) := rfl
  have hli := hok.light
  have w1 := abT_w hU
  have w2 := pusU_w (big := l.big) (abo := 0) (base := 0) (so := 0) (lo := 0) hU
  have w3 := strT_w (mkU l sp us)
  have w4 := linT_w (mkU l sp us)
  have hspn : ∀ x ∈ sp, OkSpn l x := fun x hx => by
    obtain ⟨j, hj⟩ := List.getElem?_of_mem hx
    have hjl := (List.getElem?_eq_some_iff.1 hj).1
    obtain ⟨v, hv⟩ : ∃ v, us[j]? = some v := ⟨_, List.getElem?_eq_getElem (by have := hok.sl; omega)⟩
    exact (hok.each j x v hj hv).1
  have hlst : ∀ k, (lstsT l (sp.take k)).length ≤ 8800 := fun k => by
    have := lstsT_len (l := l) (sp := sp.take k) fun x hx => hspn x (List.mem_of_mem_take hx)
    rw [List.length_take] at this; have := hok.sl; omega
  have hall := hlst sp.length
  rw [List.take_length] at hall
  exact ⟨hU, hlen, hok.n0, h4, by omega, by omega, by omega, by omega, hlst, hall⟩
theorem mkU_get {l : Lay} {sp : List Spn} {us : List Uni} (hok : OkSpd l sp us) {k : Nat} {u : Uni} (hu : us[k]? = some u) : ∃ x, sp[k]? = some x ∧ (mkU l sp us)[k]? = some (uniS l x (bgn l + (lstsT l (sp.take k)).length) u) := by
  have hk := (List.getElem?_eq_some_iff.1 hu).1
  have hsl := hok.sl
  obtain ⟨x, hx⟩ : ∃ x, sp[k]? = some x := ⟨_, List.getElem?_eq_getElem (by omega)⟩
  exact ⟨x, hx, unisS_get (atsS_get (by omega)) hx hu⟩
theorem top_nod {l : Lay} {x : Spn} {k : Nat} {u : Uni} (h : 0 < u.nods.length) : ∃ n, u.nods[0]? = some n ∧ (uniS l x k u).nods[0]? = some (spanN l x k n) := by
  unfold uniS
  cases e : u.nods with
  | nil => rw [e] at h; simp at h
  | cons n r => exact ⟨n, rfl, rfl⟩
theorem MkR.ok {l : Lay} {sp : List Spn} {us : List Uni} (h : MkR l sp us) : ∀ p ∈ pusU l.big 0 0 0 0 (mkU l sp us), OkPU (abT (mkU l sp us)) p := fun p hp => by
  have := pusU_ok (big := l.big) (base := 0) (so := 0) (lo := 0) (pre := []) (post := []) h.uni p hp
  simpa using this
theorem MkR.rg {l : Lay} {sp : List Spn} {us : List Uni} (h : MkR l sp us) : (if 4 < l.vers then [] else lstsT l sp).length < 2147483648 := by
  have := h.lstA; split
  · simp
  · omega
theorem MkR.rl {l : Lay} {sp : List Spn} {us : List Uni} (h : MkR l sp us) : ∀ r, (if 4 < l.vers then some (headT l (lstsT l sp)) else none) = some r → r.length < 2147483648 := fun r hr => by
  have := h.lstA
  split at hr
  · injection hr with hr
    rw [← hr, headT_len]; have := lsz_bd l.wide; omega
  · cases hr
end Go.Proofs.YtdplhbmoidepgaaGreatDoor
