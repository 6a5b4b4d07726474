/- Parts of the proof: Hf Hg Hh Hi Hj Ia. -/
import Derived.Test.YtbgkbgoonjkghaaGreatDoorA3
import Derived.Test.YtbgkbgoonjkghaaGreatDoorA6
import Derived.Laws.IdiomCopy
namespace Go.Sl
open Go Go.BigFrame
def zstr : ByteArray := ⟨#[0, 0, 0, 0]⟩
theorem append_zeros {P : Program} {t ti ts ty e : TypeId} {i : TypeInfo} {k : IntKind} (ht : P.underlying t = some (.slice e)) (hti : P.underlying ti = some (.int k)) (hts : P.underlying ts = some .string) (hi : P.info? e = some i) (h1 : i.size = 1) (hb : i.bytes = 1) (hz : i.zero = some (.int .u8 0))
  (base : Option Addr) (sLen sCap : Nat) (h63 : sLen + 4 ≤ 140737488355328) (w : World) :
  (Builtin.append_ #[t, ti] ty #[.slice base sLen sCap, .int .i64 4]).run P w = (Builtin.append_ #[t, ts] ty #[.slice base sLen sCap, .string zstr]).run P w := by
 have h2 : IntKind.i64.wrap 4 = 4 := by decide
 have hn63 : ¬ (9223372036854775807 < ((sLen : Int) + 4)) := by omega
 have hz4 : Builtin.zeroCells (Value.int .u8 0).cells 4 = #[.int .u8 0, .int .u8 0, .int .u8 0, .int .u8 0] := by
  have e : (Value.int .u8 0).cells = #[.int .u8 0] := rfl
  have e2 : (Array.range 4) = #[0, 1, 2, 3] := by decide +kernel
  simp [Builtin.zeroCells, e, e2]
 have hsz : zstr.size = 4 := by decide +kernel
 have hex : zstr.extract 0 4 = zstr := by decide +kernel
 have hmap : (zstr.data.map fun b => Value.int .u8 b.toNat) = #[.int .u8 0, .int .u8 0, .int .u8 0, .int .u8 0] := by simp [zstr]
 by_cases hroom : sLen + 4 ≤ sCap
 ·simp [Builtin.append_, run_underlying ht, run_underlying hti, run_underlying hts, sizeOf, typeInfo, zeroValue, hi, hb, h1, hz, h2, hroom, Builtin.lenOf, Builtin.firstCells, asInt, asIntOf, hz4, hsz, hex, hmap]
 ·have hg : sCap < sLen + 4 := by omega
  have hfit := growslice_fits (bytes := 1) hg (by omega)
  have hn : ¬ (sLen + 4 ≤ sCap) := by omega
  rw [Nat.mul_one] at hfit
  have hfit' : ¬ (281474976710656 < Builtin.nextslicecap (sLen + 4) sCap) := by omega
  simp [Builtin.append_, run_underlying ht, run_underlying hti, run_underlying hts, sizeOf, typeInfo, zeroValue, hi, hb, h1, hz, h2, hn, hn63, hfit', Builtin.lenOf, Builtin.firstCells, asInt, asIntOf, hz4, hsz, hex, hmap]
  intro h; omega
section
variable {P : Program} {ops : Array Oper} {Q : Post} {n : Nat} {D : List Deferred} {R : Regs} {Γ : Env} {H : List Blk} {rest : List Oper}
variable {d : Nat} {ty : TypeId} {pos : String} {aft : Array Edge}
theorem WL.appendZ {T : Tab} (hT : TabOk P T) {t tx ts e : TypeId} {x : Operand} {kk : IntKind} {j : TI} {v : Value} {k : Nat} {l : List Value} {Hs F : List Blk}
  (hx : ev R x = some v) (ht : T.desc t = some (.slice e)) (hti : T.desc tx = some (.int kk)) (hts : T.desc ts = some .string) (hj : T.get e = some j) (hz : Nat.beq (llen j.zc) j.size = true) (hs1 : j.size = 1) (hb1 : j.bytes = 1) (hz0 : j.zero = .int .u8 0)
  (hd : Nat.blt d n = true) (how : Ow 1 v k l Hs) (hH : Tk H Hs F) (hb : k + 4 ≤ 140737488355328)
  (K : ∀ v' Hs', Ow 1 v' (k + 4) (l ++ bytesV [0, 0, 0, 0]) Hs' → WL P ops Q n D rest ((d, v') :: R) Γ (Hs' ++ F)) :
  WL P ops Q n D (⟨some d, .call { callee := .builtin .append, args := #[x, .const (.int .i64 4)], argTypes := #[t, tx] }, ty, pos, aft, none⟩ :: rest) R Γ H :=
 WL.value hd fun a w hw => by
  have how' : Ow j.size v k l Hs := by rw [hs1]; exact how
  obtain ⟨_, i, hi, his, hib, hiz, hzc⟩ := hT.get hj
  obtain ⟨v', w', Hs', hr, ho, hst⟩ := exec_append (ty := ty) (tx := ts) (u := .string zstr) (m := 4) (news := bytesV [0, 0, 0, 0]) hT ht hj hz how' (by rw [hs1]; exact Src.ofString w (Tab.desc_ok hT hts) zstr) (by rw [hb1]; omega) (by omega) (hw.st.perm hH.perm)
  rw [hs1] at ho
  refine ⟨v', w', ?_, Γ, _, hst, K v' Hs' ho⟩
  have hv : ∃ base sLen sCap, v = .slice base sLen sCap ∧ sLen = k := by cases how <;> exact ⟨_, _, _, rfl, rfl⟩
  obtain ⟨base, sLen, sCap, rfl, rfl⟩ := hv
  have hze : i.zero = some (.int .u8 0) := by rw [← hz0]; exact hiz
  have hr2 := append_zeros (ty := ty) (Tab.desc_ok hT ht) (Tab.desc_ok hT hti) (Tab.desc_ok hT hts) hi (his.trans hs1) (hib.trans hb1) hze base sLen sCap hb w
  rw [hr] at hr2
  have e4 : a.eval (.const (.int .i64 4)) = Value.int .i64 4 := rfl
  simp only [execOp, Sem.run_bind]
  simp [resolve, Go.invoke, builtin, ev_eval hw.regs hx, e4, hr2, Result.andThen]
end
end Go.Sl
namespace Go.Proofs.YtbgkbgoonjkghaaGreatDoor
open Go Go.Sl
set_option maxRecDepth 10000
set_option maxHeartbeats 40000000
theorem pickTk2 {H H1 H2 A B F : List Blk} {b : Nat} {o : Obj} (h : Pick H b o H1) (h1 : Tk H1 A H2) (h2 : Tk H2 B F) : H.Perm ((b, o) :: (A ++ (B ++ F))) :=
 h.perm.trans ((h1.perm.trans (h2.perm.append_left A)).cons _)
def attP (v : Int) (w : Bool) (z : Int) (big : Bool) (so lo : Nat) (a : Att) : List UInt8 := (if a.ind then ulebL a.form.toNat else []) ++ attE v w z big so lo a
def attsP (v : Int) (w : Bool) (z : Int) (big : Bool) : Nat → Nat → List Att → List UInt8
 | _, _, [] => []
 | so, lo, a :: l => attP v w z big so lo a ++ attsP v w z big (so + (attS a).length) (lo + (attL a).length) l
def attsS (l : List Att) : List UInt8 := l.flatMap attS
def attsL (l : List Att) : List UInt8 := l.flatMap attL
def nodE (v : Int) (w : Bool) (z : Int) (big : Bool) (so lo i : Nat) (x : Nod) (sb : List UInt8) : List UInt8 :=
 if x.tag = 0 then [0] else ulebL (1 + 50 * i) ++ ((if x.sib then sb else []) ++ attsP v w z big so lo x.atts)
theorem attsP_snoc {v : Int} {w : Bool} {z : Int} {big : Bool} {a : Att} : ∀ {l : List Att} {so lo : Nat}, attsP v w z big so lo (l ++ [a]) = attsP v w z big so lo l ++ attP v w z big (so + (attsS l).length) (lo + (attsL l).length) a
 | [], so, lo => by simp [attsP, attsS, attsL]
 | b :: l, so, lo => by
  rw [List.cons_append, attsP, attsP_snoc, attsP, List.append_assoc]
  simp only [attsS, attsL, List.flatMap_cons, List.length_append, Nat.add_assoc]
theorem attS_len (a : Att) : (attS a).length ≤ wA a := by
 unfold attS wA; split
 ·rw [List.length_append, Array.length_toList]; have : a.s.data.size = a.s.size := rfl; simp; omega
 ·simp
theorem attL_len (a : Att) : (attL a).length ≤ wA a := by
 unfold attL wA; split
 ·rw [List.length_append, Array.length_toList]; have : a.s.data.size = a.s.size := rfl; simp; omega
 ·simp
theorem attsS_len : ∀ l : List Att, (attsS l).length ≤ sumBy wA l
 | [] => by simp [attsS]
 | a :: l => by have := attS_len a; have := attsS_len l; simp only [attsS, List.flatMap_cons, List.length_append, sumBy] at *; omega
theorem attsL_len : ∀ l : List Att, (attsL l).length ≤ sumBy wA l
 | [] => by simp [attsL]
 | a :: l => by have := attL_len a; have := attsL_len l; simp only [attsL, List.flatMap_cons, List.length_append, sumBy] at *; omega
theorem attE_len {v : Int} {w : Bool} {z : Int} {big : Bool} {so lo : Nat} {a : Att} (hz : z = 4 ∨ z = 8) (h : AttT a) (hn : a.n < 18446744073709551616) : (attE v w z big so lo a).length + 2 ≤ wA a := by
 have h1 := szOf_cases (v := v) (f := a.form) (w := w) hz
 have hb := h.bl
 have e1 : (ulebL a.b.length).length ≤ 10 := ulebL_len10 (by omega)
 have e2 : (ulebL a.n).length ≤ 10 := ulebL_len10 (by omega)
 have e3 := slebL_len10 (i64w_bd a.n).1 (i64w_bd a.n).2
 have e4 := osz_bd w
 have e5 : offSz w = osz w := rfl
 have e6 : a.s.data.size = a.s.size := rfl
 unfold wA attE
 by_cases hS : 0 < szOf v w z a.form
 ·rw [if_pos hS, fix_length]; omega
 rw [if_neg hS]
 by_cases k1 : a.form = 10
 ·rw [if_pos k1, List.length_append, fix_length]; omega
 rw [if_neg k1]
 by_cases k2 : a.form = 3
 ·rw [if_pos k2, List.length_append, fix_length]; omega
 rw [if_neg k2]
 by_cases k3 : a.form = 4
 ·rw [if_pos k3, List.length_append, fix_length]; omega
 rw [if_neg k3]
 by_cases k4 : a.form = 9 ∨ a.form = 24
 ·rw [if_pos k4, List.length_append]; omega
 rw [if_neg k4]
 by_cases k5 : a.form = 8
 ·rw [if_pos k5, List.length_append, Array.length_toList]; simp; omega
 rw [if_neg k5]
 by_cases k6 : a.form = 13
 ·rw [if_pos k6]; omega
 rw [if_neg k6]
 by_cases k7 : a.form = 15 ∨ a.form = 21
 ·rw [if_pos k7]; omega
 rw [if_neg k7]
 by_cases k8 : a.form = 14
 ·rw [if_pos k8, fix_length]; omega
 rw [if_neg k8]
 by_cases k9 : a.form = 31
 ·rw [if_pos k9, fix_length]; omega
 rw [if_neg k9]
 simp; omega
theorem attP_len {v : Int} {w : Bool} {z : Int} {big : Bool} {so lo : Nat} {a : Att} (hz : z = 4 ∨ z = 8) (h : AttT a) (hn : a.n < 18446744073709551616) : (attP v w z big so lo a).length ≤ wA a := by
 have h1 := attE_len (v := v) (w := w) (big := big) (so := so) (lo := lo) hz h hn
 have h2 : (ulebL a.form.toNat).length ≤ 1 + 1 := ulebL_len 1 _ (by have := h.f0; have := h.f1; omega)
 unfold attP; split <;> simp only [List.length_append, List.length_nil] <;> omega
theorem attsP_len {v : Int} {w : Bool} {z : Int} {big : Bool} (hz : z = 4 ∨ z = 8) : ∀ {l : List Att} {so lo : Nat}, (∀ a ∈ l, AttT a ∧ a.n < 18446744073709551616) → (attsP v w z big so lo l).length ≤ sumBy wA l
 | [], _, _, _ => by simp [attsP]
 | a :: l, so, lo, h => by
  have h1 := attP_len (v := v) (w := w) (big := big) (so := so) (lo := lo) hz (h a (List.mem_cons_self ..)).1 (h a (List.mem_cons_self ..)).2
  have h2 := attsP_len (v := v) (w := w) (big := big) hz (l := l) (so := so + (attS a).length) (lo := lo + (attL a).length) fun b hb => h b (List.mem_cons_of_mem _ hb)
  simp only [attsP, List.length_append, sumBy]; omega
structure NodT (x : Nod) : Prop where
 t0 : 0 ≤ x.tag
 t1 : x.tag ≤ 65535
 na : x.atts.length ≤ 100
 nul : x.tag = 0 → x.atts = []
 att : ∀ a ∈ x.atts, AttT a
theorem sumBy_take_le {α : Type} (f : α → Nat) : ∀ (l : List α) (k : Nat), sumBy f (l.take k) ≤ sumBy f l
 | [], k => by simp
 | a :: l, 0 => by simp [sumBy]
 | a :: l, k + 1 => by have := sumBy_take_le f l k; simp only [List.take_succ_cons, sumBy]; omega
theorem nodeText_ok {Γ : Env} {H F : List Blk} {u : Uni} {c : List Value} {x : Nod} {i : Nat} {big : Bool} {pt : Nat} {vs vl : Value} {ss ll : List UInt8} {Ss Sl : List Blk}
  (hu : UniC Γ u c) (hz : u.size = 4 ∨ u.size = 8) (hx : u.nods[i]? = some x) (hi : i < 65536) (hxt : NodT x)
  (hp : H.Perm ((pt, cel [vs, vl] 106) :: (Ss ++ (Sl ++ F)))) (hvs : Ow 1 vs ss.length (bytesV ss) Ss) (hvl : Ow 1 vl ll.length (bytesV ll) Sl) (hss : ss.length + sumBy wA x.atts < 2147483648) (hll : ll.length + sumBy wA x.atts < 2147483648) :
  Spc Tryz.prog 53 #[.agg c.toArray, .int .i64 (i : Int), .bool big, .pointer (some ⟨pt, 0, none⟩)] Γ H (fun v Γ' H' => Γ = Γ' ∧ ∃ Hs vs2 vl2 Ss2 Sl2, Ow 1 v (nodE u.vers u.wide u.size big ss.length ll.length i x [0, 0, 0, 0]).length (bytesV (nodE u.vers u.wide u.size big ss.length ll.length i x [0, 0, 0, 0])) Hs ∧
   Ow 1 vs2 (ss ++ attsS x.atts).length (bytesV (ss ++ attsS x.atts)) Ss2 ∧ Ow 1 vl2 (ll ++ attsL x.atts).length (bytesV (ll ++ attsL x.atts)) Sl2 ∧ H' = Hs ++ ((pt, cel [vs2, vl2] 106) :: (Ss2 ++ (Sl2 ++ F)))) := by
 obtain ⟨vn, rfl, hAn⟩ := hu
 obtain ⟨an, capn, cellsn, rfl, hcapn, hAn, hLn⟩ := hAn
 obtain ⟨bn, on, cx, rfl, hX, hcx⟩ := elemA hAn hLn (fun _ _ h => h.len) (w := 4) (by decide) hx
 obtain ⟨va, rfl, a0, cap0, cells0, rfl, hcap0, hA0, hL0⟩ := hX
 have hil : i < u.nods.length := (List.getElem?_eq_some_iff.1 hx).1
 have hl1 : (ulebL (1 + 50 * i)).length ≤ 10 := ulebL_len10 (by omega)
 refine Spc.perm ?_ hp
 refine Spc.body4 Tryz.func53 rfl Tryz.ntmps53 rfl ?_
 refine WC.seq ?_
 refine WC.region ?_
 (refine WL.box rfl spi_ rfl ?_; intro bu)
 refine gz_ ?_
 (refine WL.alloc tab_ok rfl rfl ?_; intro b9)
 refine gz_ ?_
 by_cases ht : x.tag = 0
 ·refine WC.condT rfl (beq_iff_eq.2 ht) ?_
  refine gz_ ?_
  (refine WL.lit tab_ok rfl rfl rfl rfl rfl rfl rfl spi_ rfl ?_; intro bl)
  refine gz_ ?_
  have hat : x.atts = [] := hxt.nul ht
  have e : nodE u.vers u.wide u.size big ss.length ll.length i x [0, 0, 0, 0] = [0] := if_pos ht
  refine WE.re (H2 := [(bl, cel (bytesV [0]) 5)] ++ ((pt, cel [vs, vl] 106) :: (Ss ++ (Sl ++ F)))) sn_ ?_
  refine end_1 rfl rfl (Env.le.rfl' _) ⟨rfl, _, vs, vl, Ss, Sl, ?_, ?_, ?_, rfl⟩
  ·rw [e]; exact Ow.lit (s := 1) (b := bl) (k := 1) (l := bytesV [0]) (T := 5) rfl
  ·rw [hat]; simpa [attsS] using hvs
  ·rw [hat]; simpa [attsL] using hvl
 refine WC.condF rfl (beq_eq_false_iff_ne.2 ht) ?_
 refine gz_ ?_
 refine WL.call rfl Tryz.call55 rfl rfl (by exact (code_ok hi)) ?_
 rintro _ _ _ - ⟨rfl, rfl, rfl⟩
 refine gz_ ?_
 refine WL.call rfl Tryz.call54 rfl rfl (by exact (unsigned_ok (n := 1 + 50 * i) (by omega))) ?_
 rintro r1 _ _ - ⟨rfl, H1, how1, rfl⟩
 refine gs_ ?_
 refine WE.then_ ?_
 refine WC.seq ?_
 have hsl : (if x.sib then [0, 0, 0, 0] else [] : List UInt8).length ≤ 4 := by cases x.sib <;> simp
 refine WC.cutM (fun R' Γ' H' => ∃ r Hs, R' = [(2, .bool big), (3, .pointer (some ⟨pt, 0, none⟩)), (4, .pointer (some ⟨bu, 0, none⟩)), (9, .pointer (some ⟨b9, 0, none⟩)), (10, r)] ∧ Γ = Γ' ∧ Ow 1 r (ulebL (1 + 50 * i) ++ (if x.sib then [0, 0, 0, 0] else [])).length (bytesV (ulebL (1 + 50 * i) ++ (if x.sib then [0, 0, 0, 0] else []))) Hs ∧
   H' = Hs ++ ((b9, cel [.int .i64 x.tag, .bool x.ch, .bool x.sib, .slice a0 x.atts.length cap0] 102) :: (bu, cel [.int .i64 u.vers, .bool u.wide, .int .i64 u.size, .slice (some ⟨bn, on, none⟩) u.nods.length capn] 60) :: (pt, cel [vs, vl] 106) :: (Ss ++ (Sl ++ F)))) ?_ ?_
 ·refine gz_ ?_
  cases hs : x.sib with
  | true =>
   refine gz_ ?_
   refine WL.appendZ (ts := 9) tab_ok rfl rfl rfl rfl rfl rfl rfl rfl rfl rfl how1 tk_ (by omega) (fun v2 Hs2 how2 => ?_)
   refine gz_ ?_
   rw [← bytesV_append] at how2
   exact WE.mid ⟨v2, Hs2, rfl, rfl, how2.to rfl, rfl⟩ sr_ sn_
  | false =>
   refine gz_ ?_
   exact WE.mid ⟨r1, H1, rfl, rfl, how1.to (by simp), rfl⟩ sr_ sn_
 rintro _ _ _ ⟨r, Hs, rfl, rfl, how, rfl⟩
 have hn64 : ∀ a ∈ x.atts, a.n < 18446744073709551616 := fun a ha => by
  obtain ⟨k, hk⟩ := List.getElem?_of_mem ha
  obtain ⟨b', o', c', -, ⟨_, -, -, h⟩, -⟩ := elemA hA0 hL0 (fun _ _ h => h.len) (w := 6) (by decide) hk
  exact h
 have hpl : ∀ k, (attsP u.vers u.wide u.size big ss.length ll.length (x.atts.take k)).length ≤ sumBy wA x.atts := fun k =>
  Nat.le_trans (attsP_len hz fun a ha => ⟨hxt.att a (List.mem_of_mem_take ha), hn64 a (List.mem_of_mem_take ha)⟩) (sumBy_take_le wA _ _)
 have hsS : ∀ k, (attsS (x.atts.take k)).length ≤ sumBy wA x.atts := fun k => Nat.le_trans (attsS_len _) (sumBy_take_le wA _ _)
 have hsL : ∀ k, (attsL (x.atts.take k)).length ≤ sumBy wA x.atts := fun k => Nat.le_trans (attsL_len _) (sumBy_take_le wA _ _)
 have hna := hxt.na
 refine gz_ ?_
 refine WC.loopE (fun m R' Γ' H' => ∃ k v Hs vs vl Ss Sl, R' = [(2, .bool big), (3, .pointer (some ⟨pt, 0, none⟩)), (4, .pointer (some ⟨bu, 0, none⟩)), (10, v), (30, .slice a0 x.atts.length cap0), (31, .int .i64 (x.atts.length : Int)), (32, .int .i64 ((k : Nat) : Int))] ∧ Γ = Γ' ∧
   H' = Hs ++ ((bu, cel [.int .i64 u.vers, .bool u.wide, .int .i64 u.size, .slice (some ⟨bn, on, none⟩) u.nods.length capn] 60) :: (pt, cel [vs, vl] 106) :: (Ss ++ (Sl ++ F))) ∧ m = x.atts.length - k ∧ k ≤ x.atts.length ∧
   Ow 1 v (ulebL (1 + 50 * i) ++ ((if x.sib then [0, 0, 0, 0] else []) ++ attsP u.vers u.wide u.size big ss.length ll.length (x.atts.take k))).length (bytesV (ulebL (1 + 50 * i) ++ ((if x.sib then [0, 0, 0, 0] else []) ++ attsP u.vers u.wide u.size big ss.length ll.length (x.atts.take k)))) Hs ∧
   Ow 1 vs (ss ++ attsS (x.atts.take k)).length (bytesV (ss ++ attsS (x.atts.take k))) Ss ∧ Ow 1 vl (ll ++ attsL (x.atts.take k)).length (bytesV (ll ++ attsL (x.atts.take k))) Sl)
  ⟨0, r, Hs, vs, vl, Ss, Sl, rfl, rfl, rfl, rfl, Nat.zero_le _, how.to (by simp [attsP]), hvs.to (by simp [attsS]), hvl.to (by simp [attsL])⟩ sr_ sn_ ?_
 clear how hvs hvl
 rintro m R' Γ' H' ⟨k, v, Hs, vs, vl, Ss, Sl, rfl, rfl, rfl, rfl, hk, how, hvs, hvl⟩
 rcases Nat.lt_or_ge k x.atts.length with hlt | hge
 case inr =>
  have ek : k = x.atts.length := by omega
  subst ek
  refine gz_ ?_
  refine WC.condF rfl (decide_eq_false (by omega)) ?_
  refine gz_ ?_
  rw [List.take_length] at how hvs hvl
  refine WE.re (H2 := Hs ++ ((pt, cel [vs, vl] 106) :: (Ss ++ (Sl ++ F)))) sn_ ?_
  exact end_1 rfl rfl (Env.le.rfl' _) ⟨rfl, Hs, vs, vl, Ss, Sl, how.to (by rw [nodE, if_neg ht]), hvs, hvl, rfl⟩
 case inl =>
  obtain ⟨y, hy⟩ : ∃ y, x.atts[k]? = some y := ⟨_, List.getElem?_eq_getElem hlt⟩
  obtain ⟨bb, oo, c, rfl, hP, hc⟩ := elemA hA0 hL0 (fun _ _ h => h.len) (w := 6) (by decide) hy
  have hP2 := hP
  obtain ⟨vb, rfl, ⟨ab, cb, rfl, -, -⟩, hyn⟩ := hP
  have hyt := hxt.att y (List.mem_of_getElem? hy)
  have hy2 := hyt
  obtain ⟨ya0, ya1, yf0, yf1, ysl, ybl⟩ := hyt
  have hwi : IntKind.i64.wrap ((k : Int) + 1) = (k : Int) + 1 := w_i64 (by omega) (by omega)
  have hkP := hpl k
  have hkS := hsS k
  have hkL := hsL k
  have hyP := attP_len (v := u.vers) (w := u.wide) (big := big) (so := ss.length + (attsS (x.atts.take k)).length) (lo := ll.length + (attsL (x.atts.take k)).length) hz hy2 hyn
  have htk : x.atts.take (k + 1) = x.atts.take k ++ [y] := by rw [List.take_add_one, hy]; rfl
  have hl9 : (ulebL (1 + 50 * i) ++ ((if x.sib then [0, 0, 0, 0] else []) ++ attsP u.vers u.wide u.size big ss.length ll.length (x.atts.take k))).length ≤ 14 + sumBy wA x.atts := by
   rw [List.length_append, List.length_append]; omega
  have hyf : IntKind.u64.wrap y.form = ((y.form.toNat : Nat) : Int) := by rw [w_u64 (by omega) (by omega)]; omega
  refine gz_ ?_
  refine WC.condT rfl tr_ ?_
  refine gz_ ?_
  (refine WL.alloc tab_ok rfl rfl ?_; intro b12)
  refine gz_ ?_
  refine WC.cutM (fun R' Γ' H' => ∃ v Hs, R' = [(2, .bool big), (3, .pointer (some ⟨pt, 0, none⟩)), (4, .pointer (some ⟨bu, 0, none⟩)), (10, v), (12, .pointer (some ⟨b12, 0, none⟩)), (30, .slice (some ⟨bb, oo, none⟩) x.atts.length cap0), (31, .int .i64 (x.atts.length : Int)), (32, .int .i64 ((k : Nat) : Int))] ∧ Γ = Γ' ∧
   H' = Hs ++ ((b12, cel [.int .i64 y.attr, .int .i64 y.form, .bool y.ind, .int .u64 (y.n : Int), .string y.s, .slice ab y.b.length cb] 142) :: (bu, cel [.int .i64 u.vers, .bool u.wide, .int .i64 u.size, .slice (some ⟨bn, on, none⟩) u.nods.length capn] 60) :: (pt, cel [vs, vl] 106) :: (Ss ++ (Sl ++ F))) ∧
   Ow 1 v ((ulebL (1 + 50 * i) ++ ((if x.sib then [0, 0, 0, 0] else []) ++ attsP u.vers u.wide u.size big ss.length ll.length (x.atts.take k))) ++ (if y.ind then ulebL y.form.toNat else [])).length (bytesV ((ulebL (1 + 50 * i) ++ ((if x.sib then [0, 0, 0, 0] else []) ++ attsP u.vers u.wide u.size big ss.length ll.length (x.atts.take k))) ++ (if y.ind then ulebL y.form.toNat else []))) Hs) ?_ ?_
  ·refine gz_ ?_
   cases hi2 : y.ind with
   | true =>
    refine gz_ ?_
    rw [hyf]
    refine WL.call rfl Tryz.call54 rfl rfl (by exact (unsigned_ok (n := y.form.toNat) (by omega))) ?_
    rintro r2 _ _ - ⟨rfl, H2, how2, rfl⟩
    have hl2 : (ulebL y.form.toNat).length ≤ 10 := ulebL_len10 (by omega)
    refine gz_ ?_
    refine WL.append tab_ok rfl rfl rfl rfl rfl rfl rfl rfl how tk_ (how2.src tab_ok rfl tk_ one_bytes) (by omega) (by omega) (fun v4 Hs4 how4 => ?_)
    rw [← bytesV_append] at how4
    refine gz_ ?_
    exact WE.mid ⟨v4, Hs4, rfl, rfl, rfl, how4.to (by simp)⟩ sr_ sn_
   | false =>
    refine gz_ ?_
    exact WE.mid ⟨v, Hs, rfl, rfl, rfl, how.to (by simp)⟩ sr_ sn_
  clear how
  rintro _ _ _ ⟨v, Hs, rfl, rfl, rfl, how⟩
  have hind : (if y.ind then ulebL y.form.toNat else []).length + (attE u.vers u.wide u.size big (ss.length + (attsS (x.atts.take k)).length) (ll.length + (attsL (x.atts.take k)).length) y).length ≤ wA y := by
   rw [attP, List.length_append] at hyP; exact hyP
  have hwy : wA y ≤ sumBy wA x.atts := sumBy_mem wA (List.mem_of_getElem? hy)
  refine gz_ ?_
  refine WL.call rfl Tryz.call79 rfl rfl (by exact (attrText_ok (big := big) hz hP2 ybl ysl (pickTk2 pk_ tk_ tk_) hvs hvl (by rw [List.length_append]; omega) (by rw [List.length_append]; omega))) ?_
  rintro r5 _ _ - ⟨rfl, H5, vs5, vl5, Ss5, Sl5, how5, hvs5, hvl5, rfl⟩
  refine gz_ ?_
  rw [show (ss ++ attsS (x.atts.take k)).length = ss.length + (attsS (x.atts.take k)).length from List.length_append, show (ll ++ attsL (x.atts.take k)).length = ll.length + (attsL (x.atts.take k)).length from List.length_append] at how5
  refine WL.append tab_ok rfl rfl rfl rfl rfl rfl rfl rfl how tk_ (how5.src tab_ok rfl tk_ one_bytes) (by rw [List.length_append]; omega) (by rw [List.length_append]; omega) (fun v6 Hs6 how6 => ?_)
  rw [← bytesV_append] at how6
  refine gz_ ?_
  refine WE.again ⟨k + 1, v6, Hs6, vs5, vl5, Ss5, Sl5, rfl, rfl, rfl, rfl, hlt, how6.to ?_, hvs5.to ?_, hvl5.to ?_⟩ (by omega) ⟨rfl, rfl, rfl, rfl, rfl, rfl, congrArg (fun z => some (Value.int .i64 z)) hwi, trivial⟩ sn_
  ·rw [htk, attsP_snoc, attP]; simp only [List.append_assoc]
  ·rw [htk]; simp [attsS]
  ·rw [htk]; simp [attsL]
def nilS : Value := .slice none 0 0
def noStr : Value := .string ⟨#[]⟩
def valC (c : Int) (base : Nat) (a : Att) (vb : Value) : List Value :=
 if c = 1 ∨ c = 11 then [.int .i64 c, .int .i64 1, .int .u64 (a.n : Int), noStr, nilS]
 else if c = 2 ∨ c = 4 then [.int .i64 c, .int .i64 5, .int .u64 0, noStr, vb]
 else if c = 3 ∨ c = 6 then [.int .i64 c, .int .i64 2, .int .u64 (a.n : Int), noStr, nilS]
 else if c = 5 then [.int .i64 c, .int .i64 3, .int .u64 (if a.form = 25 then 1 else (a.n : Int)), noStr, nilS]
 else if c = 10 then [.int .i64 c, .int .i64 6, .int .u64 (if a.form = 16 then (a.n : Int) else IntKind.u64.wrap ((a.n : Int) + base)), noStr, nilS]
 else if c = 12 then [.int .i64 c, .int .i64 4, .int .u64 0, .string a.s, nilS]
 else [.int .i64 c, .int .i64 0, .int .u64 (a.n : Int), noStr, nilS]
def valV (v : Int) (base : Nat) (a : Att) (vb : Value) : List Value := valC (clsOf v a.attr a.form).1 base a vb
theorem valueOf_ok {Γ : Env} {H : List Blk} {vers size : Int} {w : Bool} {vn : Value} {a : Att} {c : List Value} {base : Nat} (h : AttC Γ a c) (hb : base < 9223372036854775808) :
  Spc Tryz.prog 81 #[.agg #[.int .i64 vers, .bool w, .int .i64 size, vn], .int .i64 (base : Int), .agg c.toArray] Γ H (fun r Γ' H' => Γ = Γ' ∧ H = H' ∧ ∃ vb, c = [.int .i64 a.attr, .int .i64 a.form, .bool a.ind, .int .u64 (a.n : Int), .string a.s, vb] ∧ Byt Γ vb a.b ∧ r = .agg (valV vers base a vb).toArray) := by
 have hA := h
 obtain ⟨vb, rfl, hB, hn⟩ := h
 have hB2 := hB
 obtain ⟨ab, cb, rfl, -, -⟩ := hB
 refine Spc.body3 Tryz.func81 rfl Tryz.ntmps81 rfl ?_
 refine WC.seq ?_
 refine WC.region ?_
 (refine WL.box rfl spi_ rfl ?_; intro bu)
 (refine WL.box rfl spi_ rfl ?_; intro ba)
 (refine WL.alloc tab_ok rfl rfl ?_; intro b6)
 refine gz_ ?_
 refine WL.call rfl Tryz.call101 rfl rfl (by exact (class_ok vers a.attr a.form)) ?_
 rintro _ _ _ - ⟨rfl, rfl, rfl⟩
 refine gz_ ?_
 (refine WL.alloc tab_ok rfl rfl ?_; intro b9)
 refine gz_ ?_
 unfold valV
 generalize (clsOf vers a.attr a.form).1 = k
 by_cases k1 : k = 1
 ·subst k1
  refine gz_ ?_
  refine WE.re (H2 := (b6, cel [.int .i64 1, .int .i64 1, .int .u64 (a.n : Int), noStr, nilS] 266) :: H) sn_ ?_
  exact end_c tab_ok rfl rfl rfl rfl Pick.here rfl (Env.le.rfl' _) ⟨rfl, rfl, _, rfl, hB2, rfl⟩
 refine WC.condF rfl (beq_eq_false_iff_ne.2 k1) ?_
 refine gz_ ?_
 by_cases k11 : k = 11
 ·subst k11
  refine gz_ ?_
  refine WE.re (H2 := (b6, cel [.int .i64 11, .int .i64 1, .int .u64 (a.n : Int), noStr, nilS] 266) :: H) sn_ ?_
  exact end_c tab_ok rfl rfl rfl rfl Pick.here rfl (Env.le.rfl' _) ⟨rfl, rfl, _, rfl, hB2, rfl⟩
 refine WC.condF rfl (beq_eq_false_iff_ne.2 k11) ?_
 refine gz_ ?_
 by_cases k2 : k = 2
 ·subst k2
  refine gz_ ?_
  refine WC.draw 7 (.take 0 (.take 1 (.take 2 (.one 3 (.take 4 (.one 5 (.take 6 (.one 7 .done)))))))) ((ba, _) :: []) mixed xsb_ (by decide +kernel) ?_
  refine dz_ ?_
  refine gz_ ?_
  refine WE.re (H2 := (b6, cel [.int .i64 2, .int .i64 5, .int .u64 0, noStr, .slice ab a.b.length cb] 266) :: H) sn_ ?_
  exact end_c tab_ok rfl rfl rfl rfl Pick.here rfl (Env.le.rfl' _) ⟨rfl, rfl, _, rfl, hB2, rfl⟩
 refine WC.condF rfl (beq_eq_false_iff_ne.2 k2) ?_
 refine gz_ ?_
 by_cases k4 : k = 4
 ·subst k4
  refine gz_ ?_
  refine WC.draw 7 (.take 0 (.take 1 (.take 2 (.one 3 (.take 4 (.one 5 (.take 6 (.one 7 .done)))))))) ((ba, _) :: []) mixed xsb_ (by decide +kernel) ?_
  refine dz_ ?_
  refine gz_ ?_
  refine WE.re (H2 := (b6, cel [.int .i64 4, .int .i64 5, .int .u64 0, noStr, .slice ab a.b.length cb] 266) :: H) sn_ ?_
  exact end_c tab_ok rfl rfl rfl rfl Pick.here rfl (Env.le.rfl' _) ⟨rfl, rfl, _, rfl, hB2, rfl⟩
 refine WC.condF rfl (beq_eq_false_iff_ne.2 k4) ?_
 refine gz_ ?_
 by_cases k3 : k = 3
 ·subst k3
  refine gz_ ?_
  refine WE.re (H2 := (b6, cel [.int .i64 3, .int .i64 2, .int .u64 (a.n : Int), noStr, nilS] 266) :: H) sn_ ?_
  exact end_c tab_ok rfl rfl rfl rfl Pick.here rfl (Env.le.rfl' _) ⟨rfl, rfl, _, rfl, hB2, rfl⟩
 refine WC.condF rfl (beq_eq_false_iff_ne.2 k3) ?_
 refine gz_ ?_
 by_cases k6 : k = 6
 ·subst k6
  refine gz_ ?_
  refine WE.re (H2 := (b6, cel [.int .i64 6, .int .i64 2, .int .u64 (a.n : Int), noStr, nilS] 266) :: H) sn_ ?_
  exact end_c tab_ok rfl rfl rfl rfl Pick.here rfl (Env.le.rfl' _) ⟨rfl, rfl, _, rfl, hB2, rfl⟩
 refine WC.condF rfl (beq_eq_false_iff_ne.2 k6) ?_
 refine gz_ ?_
 by_cases k5 : k = 5
 ·subst k5
  refine gz_ ?_
  by_cases f25 : a.form = 25
  ·rw [show (a.form == 25) = true from beq_iff_eq.2 f25]
   refine gz_ ?_
   refine WE.re (H2 := (b6, cel [.int .i64 5, .int .i64 3, .int .u64 1, noStr, nilS] 266) :: H) sn_ ?_
   exact end_c tab_ok rfl rfl rfl rfl Pick.here rfl (Env.le.rfl' _) ⟨rfl, rfl, _, rfl, hB2, by simp [valC, f25]⟩
  ·rw [show (a.form == 25) = false from beq_eq_false_iff_ne.2 f25]
   refine gz_ ?_
   refine WE.re (H2 := (b6, cel [.int .i64 5, .int .i64 3, .int .u64 (a.n : Int), noStr, nilS] 266) :: H) sn_ ?_
   exact end_c tab_ok rfl rfl rfl rfl Pick.here rfl (Env.le.rfl' _) ⟨rfl, rfl, _, rfl, hB2, by simp [valC, f25]⟩
 refine WC.condF rfl (beq_eq_false_iff_ne.2 k5) ?_
 refine gz_ ?_
 by_cases k10 : k = 10
 ·subst k10
  refine gz_ ?_
  by_cases f16 : a.form = 16
  ·rw [show (a.form != 16) = false from by rw [f16]; rfl]
   refine gz_ ?_
   refine WE.re (H2 := (b6, cel [.int .i64 10, .int .i64 6, .int .u64 (a.n : Int), noStr, nilS] 266) :: H) sn_ ?_
   exact end_c tab_ok rfl rfl rfl rfl Pick.here rfl (Env.le.rfl' _) ⟨rfl, rfl, _, rfl, hB2, by simp [valC, f16]⟩
  ·rw [show (a.form != 16) = true from bne_iff_ne.2 f16]
   refine gz_ ?_
   rw [show IntKind.u64.wrap (base : Int) = (base : Int) from w_u64 (by omega) (by omega)]
   refine WE.re (H2 := (b6, cel [.int .i64 10, .int .i64 6, .int .u64 (IntKind.u64.wrap ((a.n : Int) + base)), noStr, nilS] 266) :: H) sn_ ?_
   exact end_c tab_ok rfl rfl rfl rfl Pick.here rfl (Env.le.rfl' _) ⟨rfl, rfl, _, rfl, hB2, by simp [valC, f16]⟩
 refine WC.condF rfl (beq_eq_false_iff_ne.2 k10) ?_
 refine gz_ ?_
 by_cases k12 : k = 12
 ·subst k12
  refine gz_ ?_
  refine WC.draw 7 (.take 0 (.take 1 (.take 2 (.one 3 (.take 4 (.one 5 (.take 6 (.one 7 .done)))))))) ((ba, _) :: []) mixed xsb_ (by decide +kernel) ?_
  refine dz_ ?_
  refine gz_ ?_
  refine WE.re (H2 := (b6, cel [.int .i64 12, .int .i64 4, .int .u64 0, .string a.s, nilS] 266) :: H) sn_ ?_
  exact end_c tab_ok rfl rfl rfl rfl Pick.here rfl (Env.le.rfl' _) ⟨rfl, rfl, _, rfl, hB2, rfl⟩
 refine WC.condF rfl (beq_eq_false_iff_ne.2 k12) ?_
 refine gz_ ?_
 refine WE.re (H2 := (b6, cel [.int .i64 k, .int .i64 0, .int .u64 (a.n : Int), noStr, nilS] 266) :: H) sn_ ?_
 exact end_c tab_ok rfl rfl rfl rfl Pick.here rfl (Env.le.rfl' _) ⟨rfl, rfl, _, rfl, hB2, by simp [valC, k1, k11, k2, k4, k3, k6, k5, k10, k12]⟩
def IntC (n : Nat) (c : List Value) : Prop := c = [.int .i64 (n : Int)]
theorem IntC.len {n : Nat} {c : List Value} (h : IntC n c) : c.length = 1 := by rw [h]; rfl
def FldC (Γ : Env) (v : Int) (base : Nat) (a : Att) (c : List Value) : Prop := ∃ vb, Byt Γ vb a.b ∧ c = .int .i64 a.attr :: valV v base a vb
def sibC (nx : Nat) : List Value := [.int .i64 1, .int .i64 10, .int .i64 6, .int .u64 (nx : Int), noStr, nilS]
def EntC (Γ : Env) (v : Int) (base off nx : Nat) (x : Nod) (c : List Value) (Hs : List Blk) : Prop :=
 (x.tag = 0 ∧ c = [.int .i64 0, .int .i64 0, .bool false, nilS] ∧ Hs = []) ∨
 (x.tag ≠ 0 ∧ ∃ vf cs, c = [.int .i64 (off : Int), .int .i64 x.tag, .bool x.ch, vf] ∧ LisC (FldC Γ v base) x.atts cs ∧ Ow 6 vf ((if x.sib then 1 else 0) + x.atts.length) ((if x.sib then sibC nx else []) ++ cs) Hs)
theorem one_sib (nx : Nat) : ∀ y ∈ sibC nx, y.oneCell' = true := by
 intro y hy; simp only [sibC, List.mem_cons, List.not_mem_nil, or_false] at hy
 rcases hy with rfl | rfl | rfl | rfl | rfl | rfl <;> rfl
theorem valC_shape (c : Int) (base : Nat) (a : Att) (ab : Option Addr) (n cb : Nat) : ∃ kk nn st a2 n2 c2, valC c base a (.slice ab n cb) = [.int .i64 c, .int .i64 kk, .int .u64 nn, .string st, .slice a2 n2 c2] := by
 unfold valC noStr nilS; repeat' split
 all_goals exact ⟨_, _, _, _, _, _, rfl⟩
theorem one_fld (z1 z2 z3 z4 : Int) (st : ByteArray) (a2 : Option Addr) (n2 c2 : Nat) : ∀ y ∈ [Value.int .i64 z1, .int .i64 z2, .int .i64 z3, .int .u64 z4, .string st, .slice a2 n2 c2], y.oneCell' = true := by
 intro y hy; simp only [List.mem_cons, List.not_mem_nil, or_false] at hy
 rcases hy with rfl | rfl | rfl | rfl | rfl | rfl <;> rfl
theorem specEntry_ok {Γ : Env} {H : List Blk} {u : Uni} {c : List Value} {x : Nod} {i base : Nat} {vp : Value} {pl : List Nat} {off nx : Nat}
  (hu : UniC Γ u c) (hn : u.nods.length ≤ 65535) (hx : u.nods[i]? = some x) (hxt : NodT x) (hb : base < 9223372036854775808)
  (hp : Arr Γ IntC vp pl) (ho : pl[i]? = some off) (hx2 : pl[aft u.nods i]? = some nx) (hnx : nx < 9223372036854775808) :
  Spc Tryz.prog 58 #[.agg c.toArray, .int .i64 (base : Int), vp, .int .i64 (i : Int)] Γ H (fun v Γ' H' => Γ = Γ' ∧ ∃ cs Hs, v = .agg cs.toArray ∧ EntC Γ u.vers base off nx x cs Hs ∧ H' = Hs ++ H) := by
 have hU := hu
 obtain ⟨vn, rfl, hAn⟩ := hu
 have hAr := hAn
 obtain ⟨an, capn, cellsn, rfl, hcapn, hAn, hLn⟩ := hAn
 obtain ⟨bn, on, cx, rfl, hX, hcx⟩ := elemA hAn hLn (fun _ _ h => h.len) (w := 4) (by decide) hx
 obtain ⟨va, rfl, a0, cap0, cells0, rfl, hcap0, hA0, hL0⟩ := hX
 obtain ⟨ap, capp, cellsp, rfl, hcapp, hAp, hLp⟩ := hp
 obtain ⟨bp, op, c1, rfl, hC1, hc1⟩ := elemA hAp hLp (fun _ _ h => h.len) (w := 1) (by decide) ho
 cases hC1
 have hil : i < u.nods.length := (List.getElem?_eq_some_iff.1 hx).1
 have hpl1 : i < pl.length := (List.getElem?_eq_some_iff.1 ho).1
 have hpl2 : aft u.nods i < pl.length := (List.getElem?_eq_some_iff.1 hx2).1
 have hcell1 : Γ.cell bp (op + ((i : Nat) : Int).toNat * 1) = some (.int .i64 (off : Int)) := cellsAt_get hc1 0 _ rfl
 have hcell2 : Γ.cell bp (op + ((aft u.nods i : Nat) : Int).toNat * 1) = some (.int .i64 (nx : Int)) := by
  obtain ⟨b', o', c2, e2, hC2, hc2⟩ := elemA hAp hLp (fun _ _ h => h.len) (w := 1) (by decide) hx2
  injection e2 with e2; injection e2 with e2 e3; subst e2 e3
  cases hC2
  exact cellsAt_get hc2 0 _ rfl
 refine Spc.body4 Tryz.func58 rfl Tryz.ntmps58 rfl ?_
 refine WC.seq ?_
 refine WC.region ?_
 (refine WL.box rfl spi_ rfl ?_; intro b4)
 (refine WL.alloc tab_ok rfl rfl ?_; intro b8)
 refine gz_ ?_
 (refine WL.alloc tab_ok rfl rfl ?_; intro b9)
 refine gz_ ?_
 by_cases ht : x.tag = 0
 ·refine WC.condT rfl (beq_iff_eq.2 ht) ?_
  refine gz_ ?_
  refine WE.re (H2 := (b8, cel [.int .i64 0, .int .i64 0, .bool false, nilS] 113) :: H) sn_ ?_
  exact end_c tab_ok rfl rfl rfl rfl Pick.here rfl (Env.le.rfl' _) ⟨rfl, _, [], rfl, .inl ⟨ht, rfl, rfl⟩, rfl⟩
 refine WC.condF rfl (beq_eq_false_iff_ne.2 ht) ?_
 refine gz_ ?_
 refine WC.draw 10 (.take 0 (.take 1 (.take 2 (.take 3 (.take 4 (.take 5 (.take 6 (.take 7 (.take 8 (.one 9 (.one 10 .done))))))))))) ((b9, _) :: []) mixed xsb_ (by decide +kernel) ?_
 refine dz_ ?_
 (refine WL.alloc tab_ok rfl rfl ?_; intro b10)
 refine dz_ ?_
 refine WC.seq ?_
 refine WC.cutM (fun R' Γ' H' => ∃ vf Hs, R' = [(1, .int .i64 (base : Int)), (4, .pointer (some ⟨b4, 0, none⟩)), (8, .pointer (some ⟨b8, 0, none⟩)), (9, .pointer (some ⟨b9, 0, none⟩)), (10, .pointer (some ⟨b10, 0, none⟩))] ∧ Γ = Γ' ∧ Ow 6 vf (if x.sib then 1 else 0) (if x.sib then sibC nx else []) Hs ∧
   H' = Hs ++ ((b10, cel [.int .i64 (off : Int), .int .i64 x.tag, .bool x.ch, vf] 113) :: (b9, cel [.int .i64 x.tag, .bool x.ch, .bool x.sib, .slice a0 x.atts.length cap0] 102) :: (b8, cel [.int .i64 0, .int .i64 0, .bool false, nilS] 113) :: (b4, cel [.int .i64 u.vers, .bool u.wide, .int .i64 u.size, .slice (some ⟨bn, on, none⟩) u.nods.length capn] 60) :: H)) ?_ ?_
 ·refine gz_ ?_
  cases hs : x.sib with
  | false =>
   refine gz_ ?_
   exact WE.mid ⟨nilS, [], rfl, rfl, Ow.nil, rfl⟩ sr_ sn_
  | true =>
   refine gz_ ?_
   refine WL.call rfl Tryz.call57 rfl rfl (by exact (After_ok hAr (by omega) (Nat.le_of_lt hil))) ?_
   rintro _ _ _ - ⟨rfl, rfl, rfl⟩
   refine gz_ ?_
   rw [show IntKind.u64.wrap (nx : Int) = (nx : Int) from w_u64 (by omega) (by omega)]
   (refine WL.alloc tab_ok rfl rfl ?_; intro b11)
   refine gz_ ?_
   (refine WL.lit tab_ok rfl rfl rfl rfl rfl rfl rfl spi_ rfl ?_; intro bl)
   refine gz_ ?_
   refine WL.append tab_ok rfl rfl rfl rfl rfl rfl rfl rfl (Ow.nil (s := 6)) (Tk.here (Hs := [])) ((Ow.lit (s := 6) (b := bl) (k := 1) (l := sibC nx) (T := 268) rfl).src tab_ok rfl t1_ (one_sib nx)) (by omega) (by omega) (fun v2 Hs2 how2 => ?_)
   obtain ⟨a9, c9, rfl⟩ := Ow.shape how2
   refine gz_ ?_
   exact WE.mid ⟨_, Hs2, rfl, rfl, how2, rfl⟩ sr_ sn_
 rintro _ _ _ ⟨vf, Hs, rfl, rfl, how, rfl⟩
 have hsk : (if x.sib then 1 else 0) ≤ 1 := by split <;> omega
 have hna := hxt.na
 refine gz_ ?_
 refine WC.loopE (fun m R' Γ' H' => ∃ k vf cs Hs, R' = [(1, .int .i64 (base : Int)), (4, .pointer (some ⟨b4, 0, none⟩)), (8, .pointer (some ⟨b8, 0, none⟩)), (10, .pointer (some ⟨b10, 0, none⟩)), (51, .slice a0 x.atts.length cap0), (52, .int .i64 (x.atts.length : Int)), (53, .int .i64 ((k : Nat) : Int))] ∧ Γ = Γ' ∧
   H' = Hs ++ ((b10, cel [.int .i64 (off : Int), .int .i64 x.tag, .bool x.ch, vf] 113) :: (b8, cel [.int .i64 0, .int .i64 0, .bool false, nilS] 113) :: (b4, cel [.int .i64 u.vers, .bool u.wide, .int .i64 u.size, .slice (some ⟨bn, on, none⟩) u.nods.length capn] 60) :: H) ∧ m = x.atts.length - k ∧ k ≤ x.atts.length ∧
   LisC (FldC Γ u.vers base) (x.atts.take k) cs ∧ Ow 6 vf ((if x.sib then 1 else 0) + k) ((if x.sib then sibC nx else []) ++ cs) Hs)
  ⟨0, vf, [], Hs, rfl, rfl, rfl, rfl, Nat.zero_le _, rfl, by simpa using how⟩ sr_ sn_ ?_
 clear how
 rintro m R' Γ' H' ⟨k, vf, cs, Hs, rfl, rfl, rfl, rfl, hk, hcs, how⟩
 obtain ⟨af, cf, rfl⟩ := Ow.shape how
 rcases Nat.lt_or_ge k x.atts.length with hlt | hge
 case inr =>
  have ek : k = x.atts.length := by omega
  subst ek
  refine gz_ ?_
  refine WC.condF rfl (decide_eq_false (by omega)) ?_
  refine gz_ ?_
  rw [List.take_length] at hcs
  refine WE.re (H2 := (b8, cel [.int .i64 (off : Int), .int .i64 x.tag, .bool x.ch, .slice af ((if x.sib then 1 else 0) + x.atts.length) cf] 113) :: (Hs ++ H)) sn_ ?_
  exact end_c tab_ok rfl rfl rfl rfl Pick.here rfl (Env.le.rfl' _) ⟨rfl, _, Hs, rfl, .inr ⟨ht, _, cs, rfl, hcs, how⟩, rfl⟩
 case inl =>
  obtain ⟨y, hy⟩ : ∃ y, x.atts[k]? = some y := ⟨_, List.getElem?_eq_getElem hlt⟩
  obtain ⟨bb, oo, c, rfl, hP, hc⟩ := elemA hA0 hL0 (fun _ _ h => h.len) (w := 6) (by decide) hy
  have hP2 := hP
  obtain ⟨vb, rfl, hB, hyn⟩ := hP
  have hB2 := hB
  obtain ⟨ab, cb, rfl, -, -⟩ := hB
  have hwi : IntKind.i64.wrap ((k : Int) + 1) = (k : Int) + 1 := w_i64 (by omega) (by omega)
  have htk : x.atts.take (k + 1) = x.atts.take k ++ [y] := by rw [List.take_add_one, hy]; rfl
  refine gz_ ?_
  refine WC.condT rfl tr_ ?_
  refine gz_ ?_
  (refine WL.alloc tab_ok rfl rfl ?_; intro b13)
  refine gz_ ?_
  refine WC.draw 12 (.take 0 (.take 1 (.take 2 (.take 3 (.take 4 (.take 5 (.take 6 (.one 7 (.take 8 (.one 9 (.one 10 (.take 11 (.one 12 .done))))))))))))) ((b4, _) :: (b10, _) :: (b13, _) :: []) mixed xsb_ (by decide +kernel) ?_
  refine dz_ ?_
  refine WL.call rfl Tryz.call81 rfl rfl (by exact (valueOf_ok (a := y) hP2 hb)) ?_
  rintro r _ _ - ⟨rfl, rfl, vb2, e2, -, rfl⟩
  injection e2 with _ e2; injection e2 with _ e2; injection e2 with _ e2; injection e2 with _ e2; injection e2 with _ e2; injection e2 with e2; subst e2
  obtain ⟨kk, nn, st, a2, n2, c2, hv⟩ := valC_shape (clsOf u.vers y.attr y.form).1 base y ab y.b.length cb
  have hv2 : valV u.vers base y (.slice ab y.b.length cb) = [.int .i64 (clsOf u.vers y.attr y.form).1, .int .i64 kk, .int .u64 nn, .string st, .slice a2 n2 c2] := hv
  rw [hv2]
  refine dz_ ?_
  (refine WL.lit tab_ok rfl rfl rfl rfl rfl rfl rfl spi_ rfl ?_; intro bl)
  refine dz_ ?_
  refine WL.append tab_ok rfl rfl rfl rfl rfl rfl rfl rfl how tk_ ((Ow.lit (s := 6) (b := bl) (k := 1) (l := [.int .i64 y.attr, .int .i64 (clsOf u.vers y.attr y.form).1, .int .i64 kk, .int .u64 nn, .string st, .slice a2 n2 c2]) (T := 268) rfl).src tab_ok rfl t1_ (one_fld _ _ _ _ _ _ _ _)) (by omega) (by omega) (fun v2 Hs2 how2 => ?_)
  obtain ⟨a9, c9, rfl⟩ := Ow.shape how2
  refine dz_ ?_
  refine gz_ ?_
  refine WE.again ⟨k + 1, _, cs ++ [.int .i64 y.attr, .int .i64 (clsOf u.vers y.attr y.form).1, .int .i64 kk, .int .u64 nn, .string st, .slice a2 n2 c2], Hs2, rfl, rfl, rfl, rfl, hlt, ?_, ?_⟩ (by omega) ⟨rfl, rfl, rfl, rfl, rfl, rfl, congrArg (fun z => some (Value.int .i64 z)) hwi, trivial⟩ sn_
  ·rw [htk]; exact hcs.append (LisC.one ⟨_, hB2, by rw [hv2]⟩)
  ·rw [List.append_assoc] at how2; exact how2
end Go.Proofs.YtbgkbgoonjkghaaGreatDoor
namespace Go.Sl
open Go Go.BigFrame
theorem Ow.some {s : Nat} {v : Value} {n : Nat} {l : List Value} {Hs : List Blk} (h : Ow s v n l Hs) (h0 : 0 < n) : ∃ b cap, v = .slice (some ⟨b, 0, none⟩) n cap ∧ n ≤ cap ∧ ∀ (Γ : Env) (H F : List Blk), Tk H Hs F → ∀ (k : Nat) (x : Value), l[k]? = some x → Rd Γ H b k x := by
 cases h with
 | nil => omega
 | @row b cap _ _ sp T fz h1 h2 h3 hz =>
  refine ⟨b, cap, rfl, h1, fun Γ H F hH k x hx => ?_⟩
  have hp : Pick H b (celF (l ++ sp) T fz) F := by
   generalize e : [(b, celF (l ++ sp) T fz)] = Hs at hH
   clear h1 h2 h3 hz hx
   induction hH with
   | here => subst e; exact Pick.here
   | all => subst e; exact Pick.here
   | skip _ ih => exact Pick.there (ih e)
   | over _ ih => exact Pick.over (ih e)
  refine .inr ⟨_, _, _, _, hp, ?_⟩
  have hlt := (List.getElem?_eq_some_iff.1 hx).1
  simp only [List.getElem?_toArray]
  rw [List.getElem?_append_left hlt, hx]
theorem setAll_mid {pre old new post : List Value} (h : new.length = old.length) : setAll pre.length new (pre ++ (old ++ post)) = pre ++ (new ++ post) := by
 rw [setAll_append _ _ _ (by rw [List.length_append]; omega), h, List.drop_left, List.append_assoc]
section
variable {P : Program} {ops : Array Oper} {Q : Post} {n : Nat} {D : List Deferred} {R : Regs} {Γ : Env} {H : List Blk} {rest : List Oper}
variable {d : Nat} {ty : TypeId} {pos : String} {aft : Array Edge}
theorem WL.copyOw {T : Tab} (hT : TabOk P T) {t tx e : TypeId} {x y : Operand} {j : TI} {a0 : Option Addr} {cap k lo m : Nat} {u : Value} {pre old new post : List Value} {Hd Hs F F2 : List Blk}
  (hx : ev R x = some (.slice (saddr a0 cap lo 1) (k - lo) (cap - lo))) (hy : ev R y = some u) (ht : T.desc t = some (.slice e)) (hj : T.get e = some j) (hs1 : j.size = 1) (hd : Nat.blt d n = true)
  (how : Ow 1 (.slice a0 k cap) k (pre ++ (old ++ post)) Hd) (hlo : lo = pre.length) (hsrc : Ow 1 u m new Hs) (hm : m = old.length) (hm0 : 0 < m)
  (hH : Tk H Hd F) (hF : Tk F Hs F2) (h1 : ∀ x ∈ new, x.oneCell' = true)
  (K : ∀ Hd', Ow 1 (.slice a0 k cap) k (pre ++ (new ++ post)) Hd' → WL P ops Q n D rest ((d, .int .i64 (m : Int)) :: R) Γ (Hd' ++ F)) :
  WL P ops Q n D (⟨some d, .call { callee := .builtin .copy, args := #[x, y], argTypes := #[t, tx] }, ty, pos, aft, none⟩ :: rest) R Γ H :=
 WL.value hd fun a w hw => by
  have hnl := hsrc.len
  have hdl := how.len
  simp only [List.length_append] at hdl
  have hu := Tab.desc_ok hT ht
  obtain ⟨_, i, hi, his, hib, hiz, hzc⟩ := hT.get hj
  have hst0 := hw.st.perm hH.perm
  generalize hL : pre ++ (old ++ post) = L at how
  cases how with
  | nil => omega
  | @row b _ _ _ sp T' fz g1 g2 g3 g4 =>
  subst hL
  cases hsrc with
  | nil => omega
  | @row b2 cap2 _ _ sp2 T2 fz2 q1 q2 q3 q4 =>
  have hsp : saddr (some ⟨b, 0, none⟩) cap lo 1 = some ⟨b, lo, none⟩ := by
   unfold saddr; split
   ·omega
   ·simp [Addr.add_lit]
  rw [hsp] at hx
  have hb' := hst0.own b _ (List.mem_cons_self ..)
  have hst2 := (hw.st.perm hH.perm)
  have hown2 : w.heap[b2]? = Option.some (celF (new ++ sp2) T2 fz2) := hw.st.own b2 _ ((hH.perm.trans (hF.perm.append_left _)).mem_iff.2 (by simp))
  have hn1 : new.length = m := by omega
  obtain ⟨w', hr, hst⟩ := run_storeCells (P := P) (b := b) (t := T') (o := lo) new 0 (pre ++ (old ++ post) ++ sp) w g4 hst0 (by simp only [List.length_append]; omega) h1
  have hc : ∀ q, q < new.length → (w.cell? ⟨b, lo + q, none⟩).isSome = true := fun q hq => by
   rw [cell_of_heap hb']; simp only [List.getElem?_toArray]
   rw [List.getElem?_eq_getElem (by simp only [List.length_append]; omega)]; rfl
  have hf : ∀ q, q < new.length → w.frozen? ⟨b, lo + q, none⟩ = false := fun q hq => frozenF_of_heap hb' g4 (by simp only [List.length_append]; omega)
  have hst3 := run_storeCells_cells (P := P) b lo new 0 w (by simpa using hc) (by simpa using hf) h1
  rw [hst3] at hr
  injection hr with _ hw'
  rw [Nat.add_zero] at hw'
  have hcp := run_copy_cells (P := P) w t tx ty e b lo (k - lo) (cap - lo) ⟨b2, 0, none⟩ m cap2 new hu (by rw [hi]; simp [his, hs1]) (by rw [hn1]; exact (Nat.min_eq_left (by omega)).symm) (fun q v hq => by
   rw [Addr.add_lit, cell_of_heap hown2]; simp only [List.getElem?_toArray]
   rw [Nat.zero_add, List.getElem?_append_left (List.getElem?_eq_some_iff.1 hq).1, hq]) hc hf h1
  rw [hw'] at hcp
  rw [Nat.add_zero, List.append_assoc, List.append_assoc, hlo, setAll_mid (by omega)] at hst
  refine ⟨.int .i64 (m : Int), w', ?_, Γ, _, hst, ?_⟩
  ·simp only [execOp, Sem.run_bind]
   simp [resolve, Go.invoke, builtin, ev_eval hw.regs hx, ev_eval hw.regs hy, hcp, Result.andThen, goInt, hn1]
  ·have := K [(b, celF (pre ++ (new ++ post) ++ sp) T' fz)] (Ow.row g1 (by simp only [List.length_append]; omega) (by simp only [List.length_append] at g3 ⊢; omega) (by simp only [List.length_append] at g4 ⊢; rw [hn1, hm]; exact g4))
   simpa [List.append_assoc] using this
end
end Go.Sl
namespace Go.Proofs.YtbgkbgoonjkghaaGreatDoor
open Go Go.Sl
set_option maxRecDepth 10000
set_option maxHeartbeats 4000000
theorem Ow.cap {s n c : Nat} {a : Option Addr} {l : List Value} {Hs : List Blk} (h : Ow s (.slice a n c) n l Hs) : n ≤ c := by
 generalize e : Value.slice a n c = v at h
 cases h with
 | nil => injection e with _ _ e; omega
 | row h1 _ _ _ => injection e with _ _ e; omega
def absL : Nat → List Nod → List Abb
 | _, [] => []
 | i, x :: l => (if x.tag = 0 then [] else [abbE i x]) ++ absL (i + 1) l
theorem absL_snoc {x : Nod} : ∀ {l : List Nod} {i : Nat}, absL i (l ++ [x]) = absL i l ++ (if x.tag = 0 then [] else [abbE (i + l.length) x])
 | [], i => by simp [absL]
 | y :: l, i => by rw [List.cons_append, absL, absL_snoc, absL, List.append_assoc, List.length_cons]; congr 3; rw [show i + 1 + l.length = i + (l.length + 1) by omega]
def textS (l : List Nod) : List UInt8 := l.flatMap fun x => attsS x.atts
def textL (l : List Nod) : List UInt8 := l.flatMap fun x => attsL x.atts
def nodL (v : Int) (w : Bool) (z : Int) (big : Bool) : Nat → Nat → Nat → List Nod → List (List UInt8)
 | _, _, _, [] => []
 | so, lo, i, x :: l => nodE v w z big so lo i x [0, 0, 0, 0] :: nodL v w z big (so + (attsS x.atts).length) (lo + (attsL x.atts).length) (i + 1) l
theorem nodL_length {v : Int} {w : Bool} {z : Int} {big : Bool} : ∀ {l : List Nod} {so lo i : Nat}, (nodL v w z big so lo i l).length = l.length
 | [], _, _, _ => rfl
 | x :: l, so, lo, i => by rw [nodL, List.length_cons, nodL_length, List.length_cons]
theorem nodL_snoc {v : Int} {w : Bool} {z : Int} {big : Bool} {x : Nod} : ∀ {l : List Nod} {so lo i : Nat}, nodL v w z big so lo i (l ++ [x]) = nodL v w z big so lo i l ++ [nodE v w z big (so + (textS l).length) (lo + (textL l).length) (i + l.length) x [0, 0, 0, 0]]
 | [], so, lo, i => by simp [nodL, textS, textL]
 | y :: l, so, lo, i => by
  rw [List.cons_append, nodL, nodL_snoc, nodL, List.cons_append]
  simp only [textS, textL, List.flatMap_cons, List.length_append, List.length_cons, Nat.add_assoc, Nat.add_comm 1]
theorem nodL_get {v : Int} {w : Bool} {z : Int} {big : Bool} {l : List Nod} {so lo i : Nat} {x : Nod} (h : l[i]? = some x) : (nodL v w z big so lo 0 l)[i]? = some (nodE v w z big (so + (textS (l.take i)).length) (lo + (textL (l.take i)).length) i x [0, 0, 0, 0]) := by
 have hlt := (List.getElem?_eq_some_iff.1 h).1
 have e : l = l.take i ++ ([x] ++ l.drop (i + 1)) := by
  rw [List.singleton_append, ← (List.getElem?_eq_some_iff.1 h).2, ← List.drop_eq_getElem_cons hlt, List.take_append_drop]
 have gen : ∀ (a b : List Nod) (so lo k : Nat), nodL v w z big so lo k (a ++ b) = nodL v w z big so lo k a ++ nodL v w z big (so + (textS a).length) (lo + (textL a).length) (k + a.length) b := by
  intro a
  induction a with
  | nil => intro b so lo k; simp [nodL, textS, textL]
  | cons y a ih =>
   intro b so lo k
   rw [List.cons_append, nodL, ih, nodL, List.cons_append]
   simp only [textS, textL, List.flatMap_cons, List.length_append, List.length_cons, Nat.add_assoc, Nat.add_comm 1]
 have hl : (l.take i).length = i := by rw [List.length_take]; omega
 conv => lhs; rw [e]
 rw [gen, List.getElem?_append_right (by rw [nodL_length]; omega), nodL_length, hl, Nat.sub_self, gen, Nat.zero_add]
 rfl
theorem nodL_take {v : Int} {w : Bool} {z : Int} {big : Bool} : ∀ {l : List Nod} {so lo k j : Nat}, (nodL v w z big so lo k l).take j = nodL v w z big so lo k (l.take j)
 | [], _, _, _, j => by simp [nodL]
 | x :: l, so, lo, k, 0 => by simp [nodL]
 | x :: l, so, lo, k, j + 1 => by rw [nodL, List.take_succ_cons, nodL_take, List.take_succ_cons, nodL]
def plN : Nat → List (List UInt8) → List Nat
 | a, [] => [a]
 | a, l :: ls => a :: plN (a + l.length) ls
def sumL (ls : List (List UInt8)) : Nat := sumBy List.length ls
theorem plN_length : ∀ {ls : List (List UInt8)} {a : Nat}, (plN a ls).length = ls.length + 1
 | [], _ => rfl
 | l :: ls, a => by rw [plN, List.length_cons, plN_length, List.length_cons]
theorem sumL_append (a b : List (List UInt8)) : sumL (a ++ b) = sumL a + sumL b := by
 unfold sumL
 induction a with
 | nil => simp [sumBy]
 | cons x a ih => simp only [List.cons_append, sumBy, ih]; omega
theorem plN_get : ∀ {ls : List (List UInt8)} {a i n : Nat}, (plN a ls)[i]? = some n → n = a + sumL (ls.take i)
 | [], a, 0, n, h => by simp [plN] at h; simp [sumL, sumBy, h]
 | [], a, i + 1, n, h => by simp [plN] at h
 | l :: ls, a, 0, n, h => by simp [plN] at h; simp [sumL, sumBy, h]
 | l :: ls, a, i + 1, n, h => by
  rw [plN, List.getElem?_cons_succ] at h
  have := plN_get h
  rw [this, List.take_succ_cons]; simp [sumL, sumBy, Nat.add_assoc]
def plS : Nat → List (List UInt8) → List Nat
 | _, [] => []
 | a, l :: ls => a :: plS (a + l.length) ls
theorem plS_snoc {l : List UInt8} : ∀ {ls : List (List UInt8)} {a : Nat}, plS a (ls ++ [l]) = plS a ls ++ [a + sumL ls]
 | [], a => by simp [plS, sumL, sumBy]
 | k :: ls, a => by rw [List.cons_append, plS, plS_snoc, plS]; simp [sumL, sumBy, Nat.add_assoc]
theorem plN_plS : ∀ {ls : List (List UInt8)} {a : Nat}, plN a ls = plS a ls ++ [a + sumL ls]
 | [], a => by simp [plN, plS, sumL, sumBy]
 | k :: ls, a => by rw [plN, plN_plS, plS]; simp [sumL, sumBy, Nat.add_assoc]
def finL (v : Int) (w : Bool) (z : Int) (big : Bool) (base : Nat) (pl : List Nat) (all : List Nod) : Nat → Nat → Nat → List Nod → List UInt8
 | _, _, _, [] => []
 | so, lo, i, x :: l => nodE v w z big so lo i x (fix (pl.getD (aft all i) 0 - base) 4 big) ++ finL v w z big base pl all (so + (attsS x.atts).length) (lo + (attsL x.atts).length) (i + 1) l
theorem finL_snoc {v : Int} {w : Bool} {z : Int} {big : Bool} {base : Nat} {pl : List Nat} {all : List Nod} {x : Nod} : ∀ {l : List Nod} {so lo i : Nat}, finL v w z big base pl all so lo i (l ++ [x]) = finL v w z big base pl all so lo i l ++ nodE v w z big (so + (textS l).length) (lo + (textL l).length) (i + l.length) x (fix (pl.getD (aft all (i + l.length)) 0 - base) 4 big)
 | [], so, lo, i => by simp [finL, textS, textL]
 | y :: l, so, lo, i => by
  rw [List.cons_append, finL, finL_snoc, finL, List.append_assoc]
  simp only [textS, textL, List.flatMap_cons, List.length_append, List.length_cons, Nat.add_assoc, Nat.add_comm 1]
theorem nodE_len {v : Int} {w : Bool} {z : Int} {big : Bool} {so lo i : Nat} {x : Nod} {sb : List UInt8} (hz : z = 4 ∨ z = 8) (hi : i < 65536) (hx : NodT x) (hn : ∀ a ∈ x.atts, a.n < 18446744073709551616) (hs : sb.length = 4) : (nodE v w z big so lo i x sb).length ≤ 14 + wN x := by
 have h1 : (ulebL (1 + 50 * i)).length ≤ 10 := ulebL_len10 (by omega)
 have h2 := attsP_len (v := v) (w := w) (big := big) (so := so) (lo := lo) hz (l := x.atts) fun a ha => ⟨hx.att a ha, hn a ha⟩
 unfold nodE wN
 split
 ·simp; omega
 ·rw [List.length_append, List.length_append]; split <;> simp only [List.length_nil, hs] <;> omega
theorem nodE_len2 {v : Int} {w : Bool} {z : Int} {big : Bool} {so lo i : Nat} {x : Nod} {sb : List UInt8} (hs : sb.length = 4) : (nodE v w z big so lo i x sb).length = (nodE v w z big so lo i x [0, 0, 0, 0]).length := by
 unfold nodE; split
 ·rfl
 ·rw [List.length_append, List.length_append, List.length_append, List.length_append]; split <;> simp [hs]
theorem finL_len {v : Int} {w : Bool} {z : Int} {big : Bool} {base : Nat} {pl : List Nat} {all : List Nod} : ∀ {l : List Nod} {so lo k : Nat}, (finL v w z big base pl all so lo k l).length = sumL (nodL v w z big so lo k l)
 | [], _, _, _ => rfl
 | y :: l, so, lo, k => by rw [finL, List.length_append, finL_len, nodE_len2 (fix_length _ _ _)]; rfl
def Prts : List (List UInt8) → List Value → List Blk → Prop
 | [], vs, H => vs = [] ∧ H = []
 | l :: ls, vs, H => ∃ a c vs' H1 H2, vs = .slice a l.length c :: vs' ∧ H = H1 ++ H2 ∧ Ow 1 (.slice a l.length c) l.length (bytesV l) H1 ∧ Prts ls vs' H2
theorem Prts.snoc {l : List UInt8} {a : Option Addr} {c : Nat} {H1 : List Blk} (ho : Ow 1 (.slice a l.length c) l.length (bytesV l) H1) : ∀ {ls : List (List UInt8)} {vs : List Value} {H : List Blk}, Prts ls vs H → Prts (ls ++ [l]) (vs ++ [.slice a l.length c]) (H ++ H1)
 | [], _, _, ⟨h1, h2⟩ => by subst h1 h2; exact ⟨a, c, [], H1, [], rfl, by simp, ho, rfl, rfl⟩
 | k :: ls, _, _, ⟨a', c', vs', G1, G2, h1, h2, h3, h4⟩ => ⟨a', c', vs' ++ [.slice a l.length c], G1, G2 ++ H1, by rw [h1]; rfl, by rw [h2, List.append_assoc], h3, Prts.snoc ho h4⟩
theorem Prts.length : ∀ {ls : List (List UInt8)} {vs : List Value} {H : List Blk}, Prts ls vs H → vs.length = ls.length
 | [], _, _, ⟨h1, _⟩ => by rw [h1]; rfl
 | _ :: _, _, _, ⟨_, _, _, _, _, h1, _, _, h4⟩ => by rw [h1, List.length_cons, Prts.length h4, List.length_cons]
theorem Prts.one : ∀ {ls : List (List UInt8)} {vs : List Value} {H : List Blk}, Prts ls vs H → ∀ v ∈ vs, v.oneCell' = true
 | [], _, _, ⟨h1, _⟩, v, hv => by rw [h1] at hv; cases hv
 | _ :: _, _, _, ⟨_, _, _, _, _, h1, _, _, h4⟩, v, hv => by
  rw [h1] at hv
  rcases List.mem_cons.1 hv with rfl | hv
  ·rfl
  ·exact Prts.one h4 v hv
theorem Prts.get : ∀ {ls : List (List UInt8)} {vs : List Value} {H : List Blk} {i : Nat} {l : List UInt8}, Prts ls vs H → ls[i]? = some l → ∃ a c, vs[i]? = some (.slice a l.length c)
 | [], _, _, _, _, _, h => by simp at h
 | k :: ls, _, _, 0, l, ⟨a, c, vs', H1, H2, h1, _, _, _⟩, h => by
  injection h with h; subst h
  exact ⟨a, c, by rw [h1]; rfl⟩
 | k :: ls, _, _, i + 1, l, ⟨a, c, vs', H1, H2, h1, _, _, h4⟩, h => by
  obtain ⟨a', c', h5⟩ := Prts.get h4 (i := i) (by simpa using h)
  exact ⟨a', c', by rw [h1]; simpa using h5⟩
theorem ints_lis : ∀ l : List Nat, LisC IntC l (l.map fun (n : Nat) => Value.int .i64 (n : Int))
 | [] => rfl
 | n :: l => ⟨[_], _, rfl, rfl, ints_lis l⟩
theorem Im.arr {α : Type} {Γ : Env} {P : α → List Value → Prop} {v : Value} {xs : List α} {cells : List Value} (h : Im Γ v xs.length cells) (hl : LisC P xs cells) : Arr Γ P v xs := by
 obtain ⟨a, cap, h1, h2, h3⟩ := h
 exact ⟨a, cap, cells, h1, h2, h3, hl⟩
def EntI (Γ : Env) (v : Int) (base off nx : Nat) (x : Nod) (c : List Value) : Prop :=
 (x.tag = 0 ∧ c = [.int .i64 0, .int .i64 0, .bool false, nilS]) ∨
 (x.tag ≠ 0 ∧ ∃ vf cs, c = [.int .i64 (off : Int), .int .i64 x.tag, .bool x.ch, vf] ∧ LisC (FldC Γ v base) x.atts cs ∧ Im Γ vf ((if x.sib then 1 else 0) + x.atts.length) ((if x.sib then sibC nx else []) ++ cs))
def EntN (Γ : Env) (v : Int) (base : Nat) (pl : List Nat) (nods : List Nod) (i : Nat) (c : List Value) : Prop :=
 ∃ x off nx, nods[i]? = some x ∧ pl[i]? = some off ∧ pl[aft nods i]? = some nx ∧ EntI Γ v base off nx x c
def hdz (u : Uni) (big : Bool) : Nat := lsz u.wide + (hdrE u.vers u.size u.wide 0 big).length
theorem hdrE_len (v size : Int) (w : Bool) (n : Nat) (big : Bool) : (hdrE v size w n big).length = 2 + (if 4 < v then 2 + offSz w else offSz w + 1) := by
 unfold hdrE; split <;> simp [fix_length] <;> omega
def plU (u : Uni) (big : Bool) (base so lo : Nat) : List Nat := plN (base + hdz u big) (nodL u.vers u.wide u.size big so lo 0 u.nods)
def bodyU (u : Uni) (big : Bool) (base so lo : Nat) : List UInt8 := finL u.vers u.wide u.size big base (plU u big base so lo) u.nods so lo 0 u.nods
def unitE (u : Uni) (big : Bool) (abo base so lo : Nat) : List UInt8 :=
 let b := hdrE u.vers u.size u.wide abo big ++ bodyU u big base so lo
 lenB u.wide b.length big ++ b
structure UniT (u : Uni) : Prop where
 v2 : 2 ≤ u.vers
 v5 : u.vers ≤ 5
 sz : u.size = 4 ∨ u.size = 8
 n1 : u.nods.length ≤ 16384
 nod : ∀ x ∈ u.nods, NodT x
theorem encA_abbE (i : Nat) (x : Nod) : encA (abbE i x) = abH i x ++ encFs (x.atts.map attA) ++ [0, 0] := by
 unfold encA abbE abH; cases x.sib <;> cases x.ch <;> simp [encFs, encFs_append, encF, ulebL_small]
theorem abbE_len {i : Nat} {x : Nod} (hi : i < 65536) (h : NodT x) : (encA (abbE i x)).length ≤ 1450 := by
 have hl1 : (ulebL (1 + 50 * i)).length ≤ 10 := ulebL_len10 (by omega)
 have hl2 : (ulebL x.tag.toNat).length ≤ 10 := ulebL_len10 (by have := h.t1; omega)
 have hhl : (abH i x).length ≤ 23 := by unfold abH; cases x.sib <;> simp <;> omega
 have h3 := encFs_len14 h.att
 have h4 := h.na
 rw [encA_abbE, List.length_append, List.length_append]
 simp only [List.length_cons, List.length_nil]; omega
theorem encAs_len {l : List Nod} : ∀ {k : Nat}, k + l.length ≤ 65536 → (∀ x ∈ l, NodT x) → (encAs (absL k l)).length ≤ 1450 * l.length := by
 induction l with
 | nil => intro k _ _; simp [absL, encAs]
 | cons x l ih =>
  intro k hk h
  have h1 := ih (k := k + 1) (by simp only [List.length_cons] at hk; omega) fun y hy => h y (List.mem_cons_of_mem _ hy)
  have h2 := abbE_len (i := k) (by simp only [List.length_cons] at hk; omega) (h x (List.mem_cons_self ..))
  rw [absL, encAs_append, List.length_append, List.length_cons]
  split
  ·simp only [encAs, List.length_nil]; omega
  ·simp only [encAs, List.append_nil]; omega
theorem sumL_le {v : Int} {w : Bool} {z : Int} {big : Bool} {l : List Nod} (hz : z = 4 ∨ z = 8) : ∀ {so lo k : Nat}, k + l.length ≤ 65536 → (∀ x ∈ l, NodT x ∧ ∀ a ∈ x.atts, a.n < 18446744073709551616) → sumL (nodL v w z big so lo k l) ≤ 14 * l.length + sumBy wN l := by
 induction l with
 | nil => intro so lo k _ _; simp [nodL, sumL, sumBy]
 | cons x l ih =>
  intro so lo k hk h
  simp only [List.length_cons] at hk
  have h1 := ih (so := so + (attsS x.atts).length) (lo := lo + (attsL x.atts).length) (k := k + 1) (by omega) fun y hy => h y (List.mem_cons_of_mem _ hy)
  have h2 := nodE_len (v := v) (w := w) (big := big) (so := so) (lo := lo) (i := k) (sb := [0, 0, 0, 0]) hz (by omega) (h x (List.mem_cons_self ..)).1 (h x (List.mem_cons_self ..)).2 rfl
  simp only [nodL, sumL, sumBy, List.length_cons] at h1 ⊢; omega
theorem textS_len : ∀ l : List Nod, (textS l).length ≤ sumBy wN l
 | [] => by simp [textS]
 | x :: l => by have h1 := attsS_len x.atts; have h2 := textS_len l; simp only [textS, List.flatMap_cons, List.length_append, sumBy, wN] at *; omega
theorem textL_len : ∀ l : List Nod, (textL l).length ≤ sumBy wN l
 | [] => by simp [textL]
 | x :: l => by have h1 := attsL_len x.atts; have h2 := textL_len l; simp only [textL, List.flatMap_cons, List.length_append, sumBy, wN] at *; omega
theorem numsOk {Γ : Env} {a : Option Addr} {cells : List Value} {l : List Nod} (hA : ImA Γ a cells) (hL : LisC (NodC Γ) l cells) : ∀ x ∈ l, ∀ a ∈ x.atts, a.n < 18446744073709551616 := by
 intro x hx y hy
 obtain ⟨k, hk⟩ := List.getElem?_of_mem hx
 obtain ⟨_, _, _, -, ⟨_, -, a0, cap0, cells0, -, -, hA0, hL0⟩, -⟩ := elemA hA hL (fun _ _ h => h.len) (w := 4) (by decide) hk
 obtain ⟨j, hj⟩ := List.getElem?_of_mem hy
 obtain ⟨b', o', c', -, ⟨_, -, -, h⟩, -⟩ := elemA hA0 hL0 (fun _ _ h => h.len) (w := 6) (by decide) hj
 exact h
theorem FldC.mono {Γ Γ' : Env} (hle : Γ.le Γ') {v : Int} {base : Nat} {a : Att} {c : List Value} (h : FldC Γ v base a c) : FldC Γ' v base a c := by
 obtain ⟨vb, h1, h2⟩ := h; exact ⟨vb, h1.mono hle, h2⟩
theorem EntI.mono {Γ Γ' : Env} (hle : Γ.le Γ') {v : Int} {base off nx : Nat} {x : Nod} {c : List Value} (h : EntI Γ v base off nx x c) : EntI Γ' v base off nx x c := by
 rcases h with h | ⟨ht, vf, cs, h1, h2, h3⟩
 ·exact .inl h
 ·exact .inr ⟨ht, vf, cs, h1, h2.imp fun _ _ h => h.mono hle, h3.mono hle⟩
theorem EntI.len {Γ : Env} {v : Int} {base off nx : Nat} {x : Nod} {c : List Value} (h : EntI Γ v base off nx x c) : c.length = 4 := by
 rcases h with ⟨_, rfl⟩ | ⟨_, _, _, rfl, _⟩ <;> rfl
theorem EntN.mono {Γ Γ' : Env} (hle : Γ.le Γ') {v : Int} {base : Nat} {pl : List Nat} {nods : List Nod} {i : Nat} {c : List Value} (h : EntN Γ v base pl nods i c) : EntN Γ' v base pl nods i c := by
 obtain ⟨x, off, nx, h1, h2, h3, h4⟩ := h; exact ⟨x, off, nx, h1, h2, h3, h4.mono hle⟩
theorem EntC.shape {Γ : Env} {v : Int} {base off nx : Nat} {x : Nod} {c : List Value} {Hs : List Blk} (h : EntC Γ v base off nx x c Hs) : ∃ z1 z2 b a n cp, c = [.int .i64 z1, .int .i64 z2, .bool b, .slice a n cp] := by
 rcases h with ⟨_, rfl, _⟩ | ⟨_, vf, cs, rfl, _, how⟩
 ·exact ⟨_, _, _, _, _, _, rfl⟩
 ·obtain ⟨a, cp, rfl⟩ := Ow.shape how
  exact ⟨_, _, _, _, _, _, rfl⟩
theorem one_ent (z1 z2 : Int) (b : Bool) (a : Option Addr) (n cp : Nat) : ∀ y ∈ [Value.int .i64 z1, .int .i64 z2, .bool b, .slice a n cp], y.oneCell' = true := by
 intro y hy; simp only [List.mem_cons, List.not_mem_nil, or_false] at hy
 rcases hy with rfl | rfl | rfl | rfl <;> rfl
section
variable {P : Program} {Q : Post} {n : Nat} {D : List Deferred} {R : Regs} {Γ : Env} {H F : List Blk}
theorem WE.keepE {e : Exit} {v : Int} {base off nx : Nat} {x : Nod} {c : List Value} {Hs : List Blk} (h : EntC Γ v base off nx x c Hs) (hH : Tk H Hs F)
  (K : ∀ Γ', Γ.le Γ' → EntI Γ' v base off nx x c → WE Q e n D R Γ' F) : WE Q e n D R Γ H := by
 rcases h with ⟨ht, rfl, rfl⟩ | ⟨ht, vf, cs, rfl, hcs, how⟩
 ·exact ⟨fun a w hs => (K Γ (Env.le.rfl' _) (.inl ⟨ht, rfl⟩)).go a w (hs.world (St.tk hH hs.st))⟩
 ·exact WE.keep how hH fun Γ' hle him => K Γ' hle (.inr ⟨ht, vf, cs, rfl, hcs.imp fun _ _ h => h.mono hle, him⟩)
end
set_option maxHeartbeats 40000000
theorem add_ok {Γ : Env} {H F : List Blk} {u : Uni} {c : List Value} {big : Bool} {ps pt : Nat} {va vi q2 q3 q4 q5 q6 vs vl : Value} {ab inf ss ll : List UInt8} {Sa Si Ss Sl : List Blk}
  (hu : UniC Γ u c) (hT : UniT u)
  (hp : H.Perm ((ps, cel [va, vi, q2, q3, q4, q5, q6] 30) :: (pt, cel [vs, vl] 106) :: (Sa ++ (Si ++ (Ss ++ (Sl ++ F))))))
  (hva : Ow 1 va ab.length (bytesV ab) Sa) (hvi : Ow 1 vi inf.length (bytesV inf) Si) (hvs : Ow 1 vs ss.length (bytesV ss) Ss) (hvl : Ow 1 vl ll.length (bytesV ll) Sl)
  (hab : ab.length + 1500 * u.nods.length + 1 < 2147483648) (hinf : inf.length + 400000 + wU u < 2147483648) (hss : ss.length + wU u < 2147483648) (hll : ll.length + wU u < 2147483648) :
  Spc Tryz.prog 35 #[.pointer (some ⟨ps, 0, none⟩), .agg c.toArray, .bool big, .pointer (some ⟨pt, 0, none⟩)] Γ H (fun v Γ' H' => ∃ ve Se ces va' vi' vs' vl' Sa' Si' Ss' Sl',
   v = .agg #[.int .i64 (inf.length : Int), ve] ∧ Ow 4 ve u.nods.length ces Se ∧ LisC (EntN Γ' u.vers inf.length (plU u big inf.length ss.length ll.length) u.nods) (List.range u.nods.length) ces ∧
   Ow 1 va' (ab ++ (encAs (absL 0 u.nods) ++ [0])).length (bytesV (ab ++ (encAs (absL 0 u.nods) ++ [0]))) Sa' ∧ Ow 1 vi' (inf ++ unitE u big ab.length inf.length ss.length ll.length).length (bytesV (inf ++ unitE u big ab.length inf.length ss.length ll.length)) Si' ∧
   Ow 1 vs' (ss ++ textS u.nods).length (bytesV (ss ++ textS u.nods)) Ss' ∧ Ow 1 vl' (ll ++ textL u.nods).length (bytesV (ll ++ textL u.nods)) Sl' ∧
   H' = Se ++ ((ps, cel [va', vi', q2, q3, q4, q5, q6] 30) :: (pt, cel [vs', vl'] 106) :: (Sa' ++ (Si' ++ (Ss' ++ (Sl' ++ F)))))) := by
 have hU := hu
 obtain ⟨vn, rfl, hAn⟩ := hu
 have hAr := hAn
 obtain ⟨an, capn, cellsn, rfl, hcapn, hAn, hLn⟩ := hAn
 obtain ⟨hv2, hv5, hz, hn1, hN⟩ := hT
 obtain ⟨aA, cA, rfl⟩ := Ow.shape hva
 obtain ⟨aI, cI, rfl⟩ := Ow.shape hvi
 obtain ⟨aS, cS, rfl⟩ := Ow.shape hvs
 obtain ⟨aL, cL, rfl⟩ := Ow.shape hvl
 refine Spc.perm ?_ hp
 refine Spc.body4 Tryz.func35 rfl Tryz.ntmps35 rfl ?_
 refine WC.seq ?_
 refine WC.region ?_
 (refine WL.box rfl spi_ rfl ?_; intro b5)
 (refine WL.alloc tab_ok rfl rfl ?_; intro b8)
 refine gz_ ?_
 (refine WL.alloc tab_ok rfl rfl ?_; intro b9)
 refine gz_ ?_
 refine WC.draw 9 (.take 0 (.take 1 (.take 2 (.take 3 (.take 4 (.take 5 (.take 6 (.one 7 (.one 8 .done))))))))) ((b5, _) :: (ps, _) :: []) mixed xsb_ (by decide +kernel) ?_
 refine dz_ ?_
 refine WL.call rfl Tryz.call50 rfl rfl (by exact (header_ok (big := big) hv2 hv5 hz (n := ab.length) (by omega))) ?_
 rintro vh _ _ - ⟨rfl, Hh, hh, rfl⟩
 refine dz_ ?_
 refine WC.seq ?_
 refine WC.draw 10 (.take 0 (.take 1 (.take 2 (.take 3 (.take 4 (.take 5 (.one 6 (.take 7 (.take 8 (.one 9 .done)))))))))) ((b5, _) :: (b9, _) :: []) mixed xsb_ (by decide +kernel) ?_
 refine dz_ ?_
 refine WL.call rfl Tryz.call51 rfl rfl (by exact (lengthy_ok hh tk_ (by rw [hdrE_len]; cases u.wide <;> split <;> decide))) ?_
 rintro vx _ _ - ⟨rfl, Hx, hx, rfl⟩
 obtain ⟨ax, cx, rfl⟩ := Ow.shape hx
 refine dz_ ?_
 have hlen : (lenB u.wide (hdrE u.vers u.size u.wide ab.length big).length big ++ hdrE u.vers u.size u.wide ab.length big).length = hdz u big := by
  rw [List.length_append, lenB_length, hdrE_len, hdz, hdrE_len]
 have hdzb : hdz u big ≤ 24 := by rw [hdz, hdrE_len]; cases u.wide <;> split <;> decide
 rw [hlen, show IntKind.i64.wrap ((inf.length : Int) + (hdz u big : Int)) = ((inf.length + hdz u big : Nat) : Int) from by rw [w_i64 (by omega) (by omega)]; omega]
 refine gz_ ?_
 (refine WL.lit tab_ok rfl rfl rfl rfl rfl rfl rfl spi_ rfl ?_; intro b12)
 refine gz_ ?_
 (refine WL.lit tab_ok rfl rfl rfl rfl rfl rfl rfl spi_ rfl ?_; intro b13)
 refine gz_ ?_
 refine WC.loopE (fun m R' Γ' H' => ∃ i vp Hp Hq vpl Hpl va vs vl cs Sa Ss Sl, R' = [(0, .pointer (some ⟨ps, 0, none⟩)), (2, .bool big), (3, .pointer (some ⟨pt, 0, none⟩)), (5, .pointer (some ⟨b5, 0, none⟩)), (8, .pointer (some ⟨b8, 0, none⟩)), (9, .pointer (some ⟨b9, 0, none⟩)), (10, vh),
    (11, .int .i64 ((inf.length + hdz u big + sumL (nodL u.vers u.wide u.size big ss.length ll.length 0 (u.nods.take i)) : Nat) : Int)), (12, vp), (13, vpl), (44, .slice an u.nods.length capn), (45, .int .i64 (u.nods.length : Int)), (46, .int .i64 ((i : Nat) : Int))] ∧ Γ = Γ' ∧
   H' = Hp ++ (Hpl ++ (Hq ++ (Hh ++ ((b9, cel [.int .i64 (inf.length : Int), nilS] 66) :: (b8, cel [.int .i64 0, nilS] 66) :: (b5, cel [.int .i64 u.vers, .bool u.wide, .int .i64 u.size, .slice an u.nods.length capn] 60) ::
    (ps, cel [va, .slice aI inf.length cI, q2, q3, q4, q5, q6] 30) :: (pt, cel [vs, vl] 106) :: (Sa ++ (Si ++ (Ss ++ (Sl ++ F)))))))) ∧
   m = u.nods.length - i ∧ i ≤ u.nods.length ∧
   Ow 1 vp i cs Hp ∧ Prts (nodL u.vers u.wide u.size big ss.length ll.length 0 (u.nods.take i)) cs Hq ∧
   Ow 1 vpl i ((plS (inf.length + hdz u big) (nodL u.vers u.wide u.size big ss.length ll.length 0 (u.nods.take i))).map fun (n : Nat) => Value.int .i64 (n : Int)) Hpl ∧
   Ow 1 va (ab ++ encAs (absL 0 (u.nods.take i))).length (bytesV (ab ++ encAs (absL 0 (u.nods.take i)))) Sa ∧
   Ow 1 vs (ss ++ textS (u.nods.take i)).length (bytesV (ss ++ textS (u.nods.take i))) Ss ∧
   Ow 1 vl (ll ++ textL (u.nods.take i)).length (bytesV (ll ++ textL (u.nods.take i))) Sl)
  ⟨0, .slice (some ⟨b12, 0, none⟩) 0 0, [(b12, cel [] 27)], [], .slice (some ⟨b13, 0, none⟩) 0 0, [(b13, cel [] 3)], .slice aA ab.length cA, .slice aS ss.length cS, .slice aL ll.length cL, [], Sa, Ss, Sl, rfl, rfl, rfl, rfl, Nat.zero_le _, Ow.lit (s := 1) (b := b12) (k := 0) (l := []) (T := 27) rfl, ⟨rfl, rfl⟩, Ow.lit (s := 1) (b := b13) (k := 0) (l := []) (T := 3) rfl, hva.to (by simp [absL, encAs]), hvs.to (by simp [textS]), hvl.to (by simp [textL])⟩ sr_ (by (try simp only [List.append_assoc, List.nil_append, List.cons_append]); exact sn_) ?_
 clear hva hvs hvl
 rintro m R' Γ' H' ⟨i, vp, Hp, Hq, vpl, Hpl, va, vs, vl, cs, Sa, Ss, Sl, rfl, rfl, rfl, rfl, hi, hvp, hpr, hvpl, hva, hvs, hvl⟩
 obtain ⟨aA, cA, rfl⟩ := Ow.shape hva
 obtain ⟨aS, cS, rfl⟩ := Ow.shape hvs
 obtain ⟨aL, cL, rfl⟩ := Ow.shape hvl
 rcases Nat.lt_or_ge i u.nods.length with hlt | hge
 case inl =>
  obtain ⟨x, hx⟩ : ∃ x, u.nods[i]? = some x := ⟨_, List.getElem?_eq_getElem hlt⟩
  obtain ⟨bb, oo, c, rfl, hX, hcx⟩ := elemA hAn hLn (fun _ _ h => h.len) (w := 4) (by decide) hx
  have hX2 := hX
  obtain ⟨vn, rfl, a0, cap0, cells0, rfl, hcap0, hA0, hL0⟩ := hX
  have hxN := hN x (List.mem_of_getElem? hx)
  have htk : u.nods.take (i + 1) = u.nods.take i ++ [x] := by rw [List.take_add_one, hx]; rfl
  have hil : (u.nods.take i).length = i := by rw [List.length_take]; omega
  have hwi : IntKind.i64.wrap ((i : Int) + 1) = (i : Int) + 1 := w_i64 (by omega) (by omega)
  have hab1 := encAs_len (l := u.nods.take i) (k := 0) (by omega) fun y hy => hN y (List.mem_of_mem_take hy)
  have hnk := numsOk hAn hLn
  have hS1 := sumL_le (v := u.vers) (w := u.wide) (big := big) (so := ss.length) (lo := ll.length) (k := 0) (l := u.nods.take i) hz (by omega) fun y hy => ⟨hN y (List.mem_of_mem_take hy), hnk y (List.mem_of_mem_take hy)⟩
  have hS2 := textS_len (u.nods.take i)
  have hS3 := textL_len (u.nods.take i)
  have hS4 := sumBy_take wN hx
  have hS5 := sumBy_take_le wN u.nods (i + 1)
  have hS6 : sumBy wN u.nods = wU u := rfl
  have hS7 : sumBy wA x.atts = wN x := rfl
  refine gz_ ?_
  refine WC.condT rfl tr_ ?_
  refine gz_ ?_
  (refine WL.alloc tab_ok rfl rfl ?_; intro b15)
  refine gz_ ?_
  refine WC.cutM (fun R' Γ' H' => ∃ aA cA Sa, R' = [(0, .pointer (some ⟨ps, 0, none⟩)), (2, .bool big), (3, .pointer (some ⟨pt, 0, none⟩)), (5, .pointer (some ⟨b5, 0, none⟩)), (8, .pointer (some ⟨b8, 0, none⟩)), (9, .pointer (some ⟨b9, 0, none⟩)), (10, vh),
    (11, .int .i64 ((inf.length + hdz u big + sumL (nodL u.vers u.wide u.size big ss.length ll.length 0 (u.nods.take i)) : Nat) : Int)), (12, vp), (13, vpl), (14, .int .i64 ((i : Nat) : Int)), (44, .slice (some ⟨bb, oo, none⟩) u.nods.length capn), (45, .int .i64 (u.nods.length : Int)), (46, .int .i64 ((i : Nat) : Int))] ∧ Γ = Γ' ∧
   H' = Hp ++ (Hpl ++ (Hq ++ (Hh ++ ((b9, cel [.int .i64 (inf.length : Int), nilS] 66) :: (b8, cel [.int .i64 0, nilS] 66) :: (b5, cel [.int .i64 u.vers, .bool u.wide, .int .i64 u.size, .slice (some ⟨bb, oo, none⟩) u.nods.length capn] 60) ::
    (ps, cel [.slice aA (ab ++ encAs (absL 0 (u.nods.take (i + 1)))).length cA, .slice aI inf.length cI, q2, q3, q4, q5, q6] 30) :: (pt, cel [.slice aS (ss ++ textS (u.nods.take i)).length cS, .slice aL (ll ++ textL (u.nods.take i)).length cL] 106) :: (Sa ++ (Si ++ (Ss ++ (Sl ++ F)))))))) ∧
   Ow 1 (.slice aA (ab ++ encAs (absL 0 (u.nods.take (i + 1)))).length cA) (ab ++ encAs (absL 0 (u.nods.take (i + 1)))).length (bytesV (ab ++ encAs (absL 0 (u.nods.take (i + 1))))) Sa) ?_ ?_
  ·by_cases ht : x.tag = 0
   ·have e : absL 0 (u.nods.take (i + 1)) = absL 0 (u.nods.take i) := by rw [htk, absL_snoc, if_pos ht, List.append_nil]
    rw [show (x.tag != 0) = false from by rw [ht]; rfl, e]
    refine gz_ ?_
    exact WE.mid ⟨aA, cA, Sa, rfl, rfl, rfl, hva⟩ sr_ sn_
   ·have e : absL 0 (u.nods.take (i + 1)) = absL 0 (u.nods.take i) ++ [abbE i x] := by rw [htk, absL_snoc, if_neg ht, hil, Nat.zero_add]
    have hal := abbE_len (i := i) (by omega) hxN
    rw [show (x.tag != 0) = true from bne_iff_ne.2 ht, e]
    refine gz_ ?_
    refine WC.draw 11 (.take 0 (.take 1 (.take 2 (.take 3 (.take 4 (.take 5 (.take 6 (.one 7 (.one 8 (.one 9 (.take 10 (.one 11 .done)))))))))))) ((b15, _) :: (ps, _) :: []) mixed xsb_ (by decide +kernel) ?_
    refine dz_ ?_
    refine WL.call rfl Tryz.call52 rfl rfl (by exact (abbrev_ok (i := i) (by omega) hX2 hxN.t0 hxN.t1 hxN.na hxN.att)) ?_
    rintro r1 _ _ - ⟨rfl, H1, how1, rfl⟩
    refine dz_ ?_
    refine WL.append tab_ok rfl rfl rfl rfl rfl rfl rfl rfl hva tk_ (how1.src tab_ok rfl tk_ one_bytes) (by rw [List.length_append]; omega) (by rw [List.length_append]; omega) (fun v2 Hs2 how2 => ?_)
    rw [← bytesV_append] at how2
    have how3 := how2.to (l' := ab ++ encAs (absL 0 (u.nods.take i) ++ [abbE i x])) (by rw [encAs_append]; simp [encAs])
    obtain ⟨a9, c9, rfl⟩ := Ow.shape how3
    refine dz_ ?_
    refine gz_ ?_
    exact WE.mid ⟨a9, c9, Hs2, rfl, rfl, rfl, how3⟩ sr_ sn_
  clear hva
  rintro _ _ _ ⟨aA, cA, Sa, rfl, rfl, rfl, hva⟩
  refine gz_ ?_
  refine WL.call rfl Tryz.call53 rfl rfl (by exact (nodeText_ok (i := i) (big := big) hU hz hx (by omega) hxN (pickTk2 pk_ tk_ tk_) hvs hvl (by rw [List.length_append]; omega) (by rw [List.length_append]; omega))) ?_
  rintro r2 _ _ - ⟨rfl, H2, vs2, vl2, Ss2, Sl2, how2, hvs2, hvl2, rfl⟩
  rw [show (ss ++ textS (u.nods.take i)).length = ss.length + (textS (u.nods.take i)).length from List.length_append, show (ll ++ textL (u.nods.take i)).length = ll.length + (textL (u.nods.take i)).length from List.length_append] at how2
  have hnl := nodL_snoc (v := u.vers) (w := u.wide) (z := u.size) (big := big) (x := x) (l := u.nods.take i) (so := ss.length) (lo := ll.length) (i := 0)
  rw [hil, Nat.zero_add, ← htk] at hnl
  have hne := nodE_len (v := u.vers) (w := u.wide) (big := big) (so := ss.length + (textS (u.nods.take i)).length) (lo := ll.length + (textL (u.nods.take i)).length) (i := i) (sb := [0, 0, 0, 0]) hz (by omega) hxN (hnk x (List.mem_of_getElem? hx)) rfl
  generalize nodE u.vers u.wide u.size big (ss.length + (textS (u.nods.take i)).length) (ll.length + (textL (u.nods.take i)).length) i x [0, 0, 0, 0] = tx at how2 hnl hne
  obtain ⟨ar, cr, rfl⟩ := Ow.shape how2
  refine gz_ ?_
  (refine WL.lit tab_ok rfl rfl rfl rfl rfl rfl rfl spi_ rfl ?_; intro bl)
  refine gz_ ?_
  refine WL.append tab_ok rfl rfl rfl rfl rfl rfl rfl rfl hvp tk_ ((Ow.lit (s := 1) (b := bl) (k := 1) (l := [.slice ar tx.length cr]) (T := 27) rfl).src tab_ok rfl t1_ (fun y hy => by rw [List.mem_singleton.1 hy]; rfl)) (by omega) (by omega) (fun vp2 Hp2 hvp2 => ?_)
  refine gz_ ?_
  (refine WL.lit tab_ok rfl rfl rfl rfl rfl rfl rfl spi_ rfl ?_; intro bl2)
  refine gz_ ?_
  refine WL.append tab_ok rfl rfl rfl rfl rfl rfl rfl rfl hvpl tk_ ((Ow.lit (s := 1) (b := bl2) (k := 1) (l := [.int .i64 ((inf.length + hdz u big + sumL (nodL u.vers u.wide u.size big ss.length ll.length 0 (u.nods.take i)) : Nat) : Int)]) (T := 3) rfl).src tab_ok rfl t1_ (fun y hy => by rw [List.mem_singleton.1 hy]; rfl)) (by omega) (by omega) (fun vpl2 Hpl2 hvpl2 => ?_)
  obtain ⟨bq, cq, rfl, hcq, hrd⟩ := hvp2.some (by omega)
  have hcl : cs.length = i := by have := hvp.len; omega
  have hq : (cs ++ [.slice ar tx.length cr])[i]? = some (.slice ar tx.length cr) := by rw [List.getElem?_append_right (by omega), show i - cs.length = 0 by omega]; rfl
  have e0 : 0 + Int.toNat (i : Int) * 1 = i := by omega
  refine gz_ ?_
  refine WL.ldR tab_ok rfl rfl rfl (by rw [e0]; exact hrd Γ _ _ tk_ _ _ hq) rfl ?_
  refine gz_ ?_
  have hsm : sumL (nodL u.vers u.wide u.size big ss.length ll.length 0 (u.nods.take (i + 1))) = sumL (nodL u.vers u.wide u.size big ss.length ll.length 0 (u.nods.take i)) + tx.length := by
   rw [hnl, sumL_append]; simp [sumL, sumBy]
  have hwa : IntKind.i64.wrap (((inf.length + hdz u big + sumL (nodL u.vers u.wide u.size big ss.length ll.length 0 (u.nods.take i)) : Nat) : Int) + (tx.length : Int)) = ((inf.length + hdz u big + sumL (nodL u.vers u.wide u.size big ss.length ll.length 0 (u.nods.take (i + 1))) : Nat) : Int) := by
   rw [hsm, w_i64 (by omega) (by omega)]; omega
  have hts : textS (u.nods.take (i + 1)) = textS (u.nods.take i) ++ attsS x.atts := by rw [htk]; simp [textS]
  have htl : textL (u.nods.take (i + 1)) = textL (u.nods.take i) ++ attsL x.atts := by rw [htk]; simp [textL]
  refine WE.again ⟨i + 1, _, Hp2, Hq ++ H2, _, Hpl2, _, vs2, vl2, cs ++ [.slice ar tx.length cr], Sa, Ss2, Sl2, rfl, rfl, rfl, rfl, hlt, hvp2, ?_, ?_, hva, ?_, ?_⟩ (by omega)
   ⟨rfl, rfl, rfl, rfl, rfl, rfl, rfl, congrArg (fun z => some (Value.int .i64 z)) hwa, rfl, rfl, rfl, rfl, congrArg (fun z => some (Value.int .i64 z)) hwi, trivial⟩ (by (try simp only [List.append_assoc, List.nil_append, List.cons_append]); exact sn_)
  ·rw [hnl]; exact hpr.snoc how2
  ·rw [hnl, plS_snoc, List.map_append]; exact hvpl2
  ·exact hvs2.to (by rw [hts, List.append_assoc])
  ·exact hvl2.to (by rw [htl, List.append_assoc])
 case inr =>
  have ei : i = u.nods.length := by omega
  subst ei
  rw [List.take_length] at hvpl hpr hva hvs hvl
  rw [List.take_length]
  have hab1 := encAs_len (l := u.nods) (k := 0) (by omega) hN
  have hnk := numsOk hAn hLn
  have hS1 := sumL_le (v := u.vers) (w := u.wide) (big := big) (so := ss.length) (lo := ll.length) (k := 0) (l := u.nods) hz (by omega) fun y hy => ⟨hN y hy, hnk y hy⟩
  have hS6 : sumBy wN u.nods = wU u := rfl
  refine gz_ ?_
  refine WC.condF rfl (decide_eq_false (by omega)) ?_
  refine gz_ ?_
  (refine WL.lit tab_ok rfl rfl rfl rfl rfl rfl rfl spi_ rfl ?_; intro bl)
  refine gz_ ?_
  refine WL.append tab_ok rfl rfl rfl rfl rfl rfl rfl rfl hva tk_ ((Ow.lit (s := 1) (b := bl) (k := 1) (l := bytesV [0]) (T := 5) rfl).src tab_ok rfl t1_ one_bytes) (by rw [List.length_append]; omega) (by rw [List.length_append]; omega) (fun va2 Sa2 hva2 => ?_)
  rw [← bytesV_append] at hva2
  have hva3 := hva2.to (l' := ab ++ (encAs (absL 0 u.nods) ++ [0])) (List.append_assoc _ _ _)
  obtain ⟨a9, c9, rfl⟩ := Ow.shape hva3
  refine gz_ ?_
  (refine WL.lit tab_ok rfl rfl rfl rfl rfl rfl rfl spi_ rfl ?_; intro bl2)
  refine gz_ ?_
  refine WL.append tab_ok rfl rfl rfl rfl rfl rfl rfl rfl hvpl tk_ ((Ow.lit (s := 1) (b := bl2) (k := 1) (l := [.int .i64 ((inf.length + hdz u big + sumL (nodL u.vers u.wide u.size big ss.length ll.length 0 u.nods) : Nat) : Int)]) (T := 3) rfl).src tab_ok rfl t1_ (fun y hy => by rw [List.mem_singleton.1 hy]; rfl)) (by omega) (by omega) (fun vpl2 Hpl2 hvpl2 => ?_)
  refine gz_ ?_
  have hNL : (nodL u.vers u.wide u.size big ss.length ll.length 0 u.nods).length = u.nods.length := nodL_length
  have hPLe : plU u big inf.length ss.length ll.length = plS (inf.length + hdz u big) (nodL u.vers u.wide u.size big ss.length ll.length 0 u.nods) ++ [inf.length + hdz u big + sumL (nodL u.vers u.wide u.size big ss.length ll.length 0 u.nods)] := plN_plS
  have hPLl : (plU u big inf.length ss.length ll.length).length = u.nods.length + 1 := by rw [plU, plN_length, hNL]
  have hPLg : ∀ k n, (plU u big inf.length ss.length ll.length)[k]? = some n → n = inf.length + hdz u big + sumL ((nodL u.vers u.wide u.size big ss.length ll.length 0 u.nods).take k) := fun k n h => plN_get h
  have hPLs : ∀ k, sumL ((nodL u.vers u.wide u.size big ss.length ll.length 0 u.nods).take k) ≤ sumL (nodL u.vers u.wide u.size big ss.length ll.length 0 u.nods) := fun k => sumBy_take_le _ _ _
  have hNLg := fun (j : Nat) (x : Nod) (h : u.nods[j]? = some x) => nodL_get (v := u.vers) (w := u.wide) (z := u.size) (big := big) (so := ss.length) (lo := ll.length) h
  refine WC.keep hvp tk_ (fun Γ1 hle1 hpIm => ?_)
  refine WC.keep hvpl2 tk_ (fun Γ2 hle2 hplIm => ?_)
  have hpArr : Arr Γ2 IntC vpl2 (plU u big inf.length ss.length ll.length) := by
   refine Im.arr (cells := (plU u big inf.length ss.length ll.length).map fun (n : Nat) => Value.int .i64 (n : Int)) ?_ (ints_lis _)
   rw [hPLl, hPLe, List.map_append]; exact hplIm
  have hpIm2 := hpIm.mono hle2
  have hle12 := hle1.trans hle2
  generalize hPLd : plU u big inf.length ss.length ll.length = PL at hpArr hPLe hPLl hPLg
  generalize hNLd : nodL u.vers u.wide u.size big ss.length ll.length 0 u.nods = NL at hNL hPLe hPLg hPLs hNLg hpr hS1 hpIm hpIm2 hplIm
  clear hvp hvpl hvpl2 hplIm hpIm hva hva2
  obtain ⟨av, cv, rfl, hcv, hAv⟩ := hpIm2
  have hpArr2 := hpArr
  obtain ⟨apl, cpl, cellsp, rfl, hcpl, hApl, hLpl⟩ := hpArr2
  refine WC.loopE (fun m R' Γ' H' => ∃ j Γj v Hv Hq ve ces Se, R' = [(0, .pointer (some ⟨ps, 0, none⟩)), (2, .bool big), (5, .pointer (some ⟨b5, 0, none⟩)), (8, .pointer (some ⟨b8, 0, none⟩)), (9, .pointer (some ⟨b9, 0, none⟩)), (10, v),
    (12, .slice av u.nods.length cv), (13, .slice apl PL.length cpl), (99, .slice an u.nods.length capn), (100, .int .i64 (u.nods.length : Int)), (101, .int .i64 ((j : Nat) : Int))] ∧ Γj = Γ' ∧ Γ2.le Γj ∧
   H' = Hv ++ (Hq ++ (Se ++ ((b9, cel [.int .i64 (inf.length : Int), ve] 66) :: (b8, cel [.int .i64 0, nilS] 66) :: (b5, cel [.int .i64 u.vers, .bool u.wide, .int .i64 u.size, .slice an u.nods.length capn] 60) ::
    (ps, cel [.slice a9 (ab ++ (encAs (absL 0 u.nods) ++ [0])).length c9, .slice aI inf.length cI, q2, q3, q4, q5, q6] 30) :: (pt, cel [.slice aS (ss ++ textS u.nods).length cS, .slice aL (ll ++ textL u.nods).length cL] 106) :: (Sa2 ++ (Si ++ (Ss ++ (Sl ++ F))))))) ∧
   m = u.nods.length - j ∧ j ≤ u.nods.length ∧
   Ow 1 v (hdrE u.vers u.size u.wide ab.length big ++ finL u.vers u.wide u.size big inf.length PL u.nods ss.length ll.length 0 (u.nods.take j)).length (bytesV (hdrE u.vers u.size u.wide ab.length big ++ finL u.vers u.wide u.size big inf.length PL u.nods ss.length ll.length 0 (u.nods.take j))) Hv ∧
   Prts (NL.drop j) (cs.drop j) Hq ∧ Ow 4 ve j ces Se ∧ LisC (EntN Γj u.vers inf.length PL u.nods) (List.range j) ces)
   ⟨0, Γ2, vh, Hh, Hq, nilS, [], [], rfl, rfl, Env.le.rfl' _, rfl, rfl, Nat.zero_le _, hh.to (by simp [finL]), hpr, Ow.nil, rfl⟩ sr_ (by (try simp only [List.append_assoc, List.nil_append, List.cons_append]); exact sn_) ?_
  clear hpr
  rintro m R' Γ' H' ⟨j, Γj, v, Hv, Hq, ve, ces, Se, rfl, rfl, hlej, rfl, rfl, hj, hv, hpr, hve, hces⟩
  obtain ⟨ae, ce, rfl⟩ := Ow.shape hve
  obtain ⟨ah, ch, rfl⟩ := Ow.shape hv
  rcases Nat.lt_or_ge j u.nods.length with hlt | hge
  case inr =>
   have ej : j = u.nods.length := by omega
   subst ej
   rw [List.take_length] at hv
   rw [List.take_length]
   have hfl : (finL u.vers u.wide u.size big inf.length PL u.nods ss.length ll.length 0 u.nods).length = sumL NL := by rw [finL_len, hNLd]
   have hHl : (hdrE u.vers u.size u.wide ab.length big).length ≤ 12 := by rw [hdrE_len]; cases u.wide <;> split <;> decide
   have hwl := lsz_bd u.wide
   refine gz_ ?_
   refine WC.condF rfl (decide_eq_false (by omega)) ?_
   refine gz_ ?_
   refine WC.draw 13 (.take 0 (.take 1 (.take 2 (.take 3 (.take 4 (.take 5 (.take 6 (.take 7 (.take 8 (.one 9 (.one 10 (.one 11 (.take 12 (.one 13 .done)))))))))))))) ((b5, _) :: (ps, _) :: []) mixed xsb_ (by decide +kernel) ?_
   refine dz_ ?_
   refine WL.call rfl Tryz.call51 rfl rfl (by exact (lengthy_ok hv tk_ (by rw [List.length_append]; omega))) ?_
   rintro vx _ _ - ⟨rfl, Hx, hx, rfl⟩
   refine dz_ ?_
   refine WL.append tab_ok rfl rfl rfl rfl rfl rfl rfl rfl hvi tk_ (hx.src tab_ok rfl tk_ one_bytes) (by rw [List.length_append, List.length_append, lenB_length]; omega) (by rw [List.length_append, List.length_append, lenB_length]; omega) (fun vi2 Si2 hvi2 => ?_)
   rw [← bytesV_append] at hvi2
   subst hPLd
   have hvi3 := hvi2.to (l' := inf ++ unitE u big ab.length inf.length ss.length ll.length) rfl
   obtain ⟨a8, c8, rfl⟩ := Ow.shape hvi3
   refine dz_ ?_
   refine gz_ ?_
   refine WE.re (H2 := (b8, cel [.int .i64 (inf.length : Int), .slice ae u.nods.length ce] 66) :: (Se ++ ((ps, cel [.slice a9 (ab ++ (encAs (absL 0 u.nods) ++ [0])).length c9, .slice a8 (inf ++ unitE u big ab.length inf.length ss.length ll.length).length c8, q2, q3, q4, q5, q6] 30) :: (pt, cel [.slice aS (ss ++ textS u.nods).length cS, .slice aL (ll ++ textL u.nods).length cL] 106) :: (Sa2 ++ (Si2 ++ (Ss ++ (Sl ++ F))))))) sn_ ?_
   exact end_c tab_ok rfl rfl rfl rfl Pick.here rfl (hle12.trans hlej) ⟨_, Se, ces, _, _, _, _, Sa2, Si2, Ss, Sl, rfl, hve, hces, hva3, hvi3, hvs, hvl, rfl⟩
  case inl =>
   clear hab hss hll hva3 hvi hvs hvl hab1 hp hx hlen hi hge hle1 hle2 hcapn hcv
   obtain ⟨x, hx⟩ : ∃ x, u.nods[j]? = some x := ⟨_, List.getElem?_eq_getElem hlt⟩
   have hleA := hle12.trans hlej
   obtain ⟨bb, oo, c, rfl, hX, hcx⟩ := elemA (hAn.mono hleA) (hLn.imp fun _ _ h => NodC.mono hleA h) (fun _ _ h => h.len) (w := 4) (by decide) hx
   have hX2 := hX
   obtain ⟨vn, rfl, a0, cap0, cells0, rfl, hcap0, hA0, hL0⟩ := hX
   have hxN := hN x (List.mem_of_getElem? hx)
   have hUj := hU.mono hleA
   have hArj := Arr.mono hleA (fun _ _ h => NodC.mono hleA h) hAr
   have hNj := hNLg j x hx
   have hne := nodE_len (v := u.vers) (w := u.wide) (big := big) (so := ss.length + (textS (u.nods.take j)).length) (lo := ll.length + (textL (u.nods.take j)).length) (i := j) (sb := [0, 0, 0, 0]) hz (by omega) hxN (hnk x (List.mem_of_getElem? hx)) rfl
   generalize htx : nodE u.vers u.wide u.size big (ss.length + (textS (u.nods.take j)).length) (ll.length + (textL (u.nods.take j)).length) j x [0, 0, 0, 0] = tx at hNj hne
   have hjl : j < NL.length := by omega
   have hdrop : NL.drop j = tx :: NL.drop (j + 1) := by
    rw [List.drop_eq_getElem_cons hjl]
    rw [List.getElem?_eq_getElem hjl] at hNj; injection hNj with hNj; rw [hNj]
   rw [hdrop] at hpr
   obtain ⟨ap, cp, vs', H1, H2, hcs, rfl, hpt, hpr2⟩ := hpr
   have hcsj : cs[j]? = some (.slice ap tx.length cp) := by
    have : (cs.drop j)[0]? = some (.slice ap tx.length cp) := by rw [hcs]; rfl
    rwa [List.getElem?_drop, Nat.add_zero] at this
   have hcs2 : cs.drop (j + 1) = vs' := by rw [← List.drop_drop, hcs]; rfl
   rw [← hcs2] at hpr2
   obtain ⟨bq, oq, rfl, hcq⟩ := hAv j _ hcsj
   have hcq2 : Γj.cell bq (oq + Int.toNat (j : Int) * 1) = some (.slice ap tx.length cp) := by rw [Int.toNat_natCast, Nat.mul_one]; exact hlej.cell hcq
   have haft := aft_le u.nods (Nat.le_of_lt hlt)
   obtain ⟨off, ho⟩ : ∃ o, PL[j]? = some o := ⟨_, List.getElem?_eq_getElem (by omega)⟩
   obtain ⟨nx, hnx⟩ : ∃ o, PL[aft u.nods j]? = some o := ⟨_, List.getElem?_eq_getElem (by omega)⟩
   have hoff := hPLg _ _ ho
   have hnxv := hPLg _ _ hnx
   have hs1 := hPLs j
   have hs2 := hPLs (aft u.nods j)
   have hpArrj := Arr.mono hlej (fun _ _ h => h) hpArr
   obtain ⟨bp, op, c1, rfl, hC1, hc1⟩ := elemA (hApl.mono hlej) hLpl (fun _ _ h => IntC.len h) (w := 1) (by decide) hnx
   cases hC1
   have hcn : Γj.cell bp (op + Int.toNat ((aft u.nods j : Nat) : Int) * 1) = some (.int .i64 (nx : Int)) := cellsAt_get hc1 0 _ rfl
   have hwi : IntKind.i64.wrap ((j : Int) + 1) = (j : Int) + 1 := w_i64 (by omega) (by omega)
   have hwn : IntKind.u64.wrap (IntKind.i64.wrap ((nx : Int) - (inf.length : Int))) = ((nx - inf.length : Nat) : Int) := by rw [w_i64 (by omega) (by omega), w_u64 (by omega) (by omega)]; omega
   have hlu : (ulebL (1 + 50 * j)).length ≤ 10 := ulebL_len10 (by omega)
   have hcap := Ow.cap hpt
   have hnx1 : inf.length ≤ nx := by omega
   have hnx2 : nx < 2147483648 := by omega
   have hoff2 : off < 2147483648 := by omega
   have hfl : (finL u.vers u.wide u.size big inf.length PL u.nods ss.length ll.length 0 (u.nods.take j)).length ≤ sumL NL := by
    rw [finL_len, ← nodL_take, hNLd]; exact hPLs j
   have htl : tx.length < 2147483648 := by have := sumBy_mem wN (List.mem_of_getElem? hx); omega
   have hvl : (hdrE u.vers u.size u.wide ab.length big ++ finL u.vers u.wide u.size big inf.length PL u.nods ss.length ll.length 0 (u.nods.take j)).length < 2147483648 := by rw [List.length_append, hdrE_len]; have := osz_bd u.wide; have e : offSz u.wide = osz u.wide := rfl; split <;> omega
   clear hinf hS1 hS6 hoff hnxv hs1 hs2 hPLg hPLs hNLg hnk hNj hjl hNL hPLe hfl hne hdzb
   refine gz_ ?_
   refine WC.condT rfl tr_ ?_
   refine gz_ ?_
   (refine WL.alloc tab_ok rfl rfl ?_; intro b17)
   refine gs_ ?_
   refine WE.then_ ?_
   refine WC.seq ?_
   refine WC.seq ?_
   refine WC.cutM (fun R' Γ' H' => R' = [(0, .pointer (some ⟨ps, 0, none⟩)), (2, .bool big), (5, .pointer (some ⟨b5, 0, none⟩)), (8, .pointer (some ⟨b8, 0, none⟩)), (9, .pointer (some ⟨b9, 0, none⟩)), (10, .slice ah (hdrE u.vers u.size u.wide ab.length big ++ finL u.vers u.wide u.size big inf.length PL u.nods ss.length ll.length 0 (u.nods.take j)).length ch), (12, .slice (some ⟨bq, oq, none⟩) u.nods.length cv), (13, .slice (some ⟨bp, op, none⟩) PL.length cpl), (16, .int .i64 ((j : Nat) : Int)), (17, .pointer (some ⟨b17, 0, none⟩)), (99, .slice (some ⟨bb, oo, none⟩) u.nods.length capn), (100, .int .i64 (u.nods.length : Int)), (101, .int .i64 ((j : Nat) : Int)), (112, .bool (x.sib && x.tag != 0))] ∧ Γj = Γ' ∧
    H' = (b17, cel [.int .i64 x.tag, .bool x.ch, .bool x.sib, .slice a0 x.atts.length cap0] 102) :: (Hv ++ (H1 ++ (H2 ++ (Se ++ ((b9, cel [.int .i64 (inf.length : Int), .slice ae j ce] 66) :: (b8, cel [.int .i64 0, nilS] 66) :: (b5, cel [.int .i64 u.vers, .bool u.wide, .int .i64 u.size, .slice (some ⟨bb, oo, none⟩) u.nods.length capn] 60) :: (ps, cel [.slice a9 (ab ++ (encAs (absL 0 u.nods) ++ [0])).length c9, .slice aI inf.length cI, q2, q3, q4, q5, q6] 30) :: (pt, cel [.slice aS (ss ++ textS u.nods).length cS, .slice aL (ll ++ textL u.nods).length cL] 106) :: (Sa2 ++ (Si ++ (Ss ++ (Sl ++ F)))))))))) ?_ ?_
   ·cases hs : x.sib with
    | true =>
     refine gz_ ?_
     exact WE.mid ⟨rfl, rfl, rfl⟩ sr_ (by (try simp only [List.append_assoc, List.nil_append, List.cons_append]); exact sn_)
    | false =>
     refine gz_ ?_
     exact WE.mid ⟨rfl, rfl, rfl⟩ sr_ (by (try simp only [List.append_assoc, List.nil_append, List.cons_append]); exact sn_)
   rintro _ _ _ ⟨rfl, rfl, rfl⟩
   refine WE.then_ ?_
   generalize htx2 : nodE u.vers u.wide u.size big (ss.length + (textS (u.nods.take j)).length) (ll.length + (textL (u.nods.take j)).length) j x (fix (nx - inf.length) 4 big) = tx2
   have hl2 : tx2.length = tx.length := by rw [← htx2, ← htx]; exact nodE_len2 (fix_length _ _ _)
   refine WC.cutM (fun R' Γ' H' => ∃ Hd, R' = [(0, .pointer (some ⟨ps, 0, none⟩)), (2, .bool big), (5, .pointer (some ⟨b5, 0, none⟩)), (8, .pointer (some ⟨b8, 0, none⟩)), (9, .pointer (some ⟨b9, 0, none⟩)), (10, .slice ah (hdrE u.vers u.size u.wide ab.length big ++ finL u.vers u.wide u.size big inf.length PL u.nods ss.length ll.length 0 (u.nods.take j)).length ch), (12, .slice (some ⟨bq, oq, none⟩) u.nods.length cv), (13, .slice (some ⟨bp, op, none⟩) PL.length cpl), (16, .int .i64 ((j : Nat) : Int)), (99, .slice (some ⟨bb, oo, none⟩) u.nods.length capn), (100, .int .i64 (u.nods.length : Int)), (101, .int .i64 ((j : Nat) : Int))] ∧ Γj = Γ' ∧ H' = Hv ++ (Hd ++ (H2 ++ (Se ++ ((b9, cel [.int .i64 (inf.length : Int), .slice ae j ce] 66) :: (b8, cel [.int .i64 0, nilS] 66) :: (b5, cel [.int .i64 u.vers, .bool u.wide, .int .i64 u.size, .slice (some ⟨bb, oo, none⟩) u.nods.length capn] 60) :: (ps, cel [.slice a9 (ab ++ (encAs (absL 0 u.nods) ++ [0])).length c9, .slice aI inf.length cI, q2, q3, q4, q5, q6] 30) :: (pt, cel [.slice aS (ss ++ textS u.nods).length cS, .slice aL (ll ++ textL u.nods).length cL] 106) :: (Sa2 ++ (Si ++ (Ss ++ (Sl ++ F)))))))) ∧ Ow 1 (.slice ap tx.length cp) tx.length (bytesV tx2) Hd) ?_ ?_
   ·by_cases hb : (x.sib && x.tag != 0) = true
    ·rw [hb]
     refine gz_ ?_
     rw [Bool.and_eq_true, bne_iff_ne] at hb
     obtain ⟨hsb, htg⟩ := hb
     rw [nodE, if_neg htg, hsb, if_pos rfl] at htx htx2
     have hll : (ulebL (1 + 50 * j)).length + 4 ≤ tx.length := by rw [← htx, List.length_append, List.length_append]; simp
     refine WC.draw 23 (.take 0 (.take 1 (.take 2 (.take 3 (.take 4 (.take 9 (.take 10 (.take 11 (.take 12 (.take 16 (.take 17 (.take 20 (.one 5 (.one 6 (.take 7 (.take 8 (.one 13 (.take 14 (.take 15 (.take 18 (.take 19 (.one 21 (.one 22 .done))))))))))))))))))))))) ((b5, _) :: (b9, _) :: []) mixed xsb_ (by decide +kernel) ?_
     refine dz_ ?_
     refine WL.call rfl Tryz.call55 rfl rfl (by exact (code_ok (i := j) (by omega))) ?_
     rintro _ _ _ - ⟨rfl, rfl, rfl⟩
     refine dz_ ?_
     refine WL.call rfl Tryz.call54 rfl rfl (by exact (unsigned_ok (n := 1 + 50 * j) (by omega))) ?_
     rintro r1 _ _ - ⟨rfl, Hu, hu1, rfl⟩
     obtain ⟨au, cu, rfl⟩ := Ow.shape hu1
     refine dz_ ?_
     refine WL.call rfl Tryz.call57 rfl rfl (by exact (After_ok hArj (by omega) (Nat.le_of_lt hlt))) ?_
     rintro _ _ _ - ⟨rfl, rfl, rfl⟩
     refine dz_ ?_
     rw [hwn]
     refine WL.call rfl Tryz.call56 rfl rfl (by exact (fixed_ok (n := nx - inf.length) (s := 4) (big := big) (by omega) (by decide))) ?_
     rintro r2 _ _ - ⟨rfl, Hf, hf, rfl⟩
     refine dz_ ?_
     refine WL.copyOw (lo := (ulebL (1 + 50 * j)).length) (m := 4) (pre := bytesV (ulebL (1 + 50 * j))) (old := bytesV [0, 0, 0, 0]) (post := bytesV (attsP u.vers u.wide u.size big (ss.length + (textS (u.nods.take j)).length) (ll.length + (textL (u.nods.take j)).length) x.atts))
      tab_ok rfl rfl rfl rfl rfl rfl (by rw [← bytesV_append, ← bytesV_append, htx]; exact hpt) (by simp [bytesV]) hf rfl (by decide) tk_ tk_ one_bytes (fun Hd2 hd2 => ?_)
     rw [← bytesV_append, ← bytesV_append, htx2] at hd2
     refine dz_ ?_
     exact WE.mid ⟨Hd2, rfl, rfl, rfl, hd2⟩ sr_ sn_
    ·rw [Bool.not_eq_true] at hb
     rw [hb]
     refine gz_ ?_
     have : tx2 = tx := by
      rw [← htx, ← htx2, nodE, nodE]
      by_cases ht : x.tag = 0
      ·rw [if_pos ht, if_pos ht]
      ·have : x.sib = false := by
        cases hs : x.sib with
        | false => rfl
        | true => rw [hs] at hb; simp at hb; exact absurd hb ht
       rw [this]; rfl
     rw [this]
     exact WE.mid ⟨H1, rfl, rfl, rfl, hpt⟩ sr_ sn_
   rintro _ _ _ ⟨Hd, rfl, rfl, rfl, hpt2⟩
   refine gz_ ?_
   refine WL.append tab_ok rfl rfl rfl rfl rfl rfl rfl rfl hv tk_ (hpt2.src tab_ok rfl tk_ one_bytes) (by omega) (by omega) (fun v2 Hs2 hw2 => ?_)
   rw [← bytesV_append, List.append_assoc] at hw2
   have hw3 := hw2.to (l' := hdrE u.vers u.size u.wide ab.length big ++ finL u.vers u.wide u.size big inf.length PL u.nods ss.length ll.length 0 (u.nods.take (j + 1))) (by
    have hjl : (u.nods.take j).length = j := by rw [List.length_take]; omega
    have hg : PL.getD (aft u.nods j) 0 = nx := by rw [List.getD_eq_getElem?_getD, hnx]; rfl
    rw [show u.nods.take (j + 1) = u.nods.take j ++ [x] by rw [List.take_add_one, hx]; rfl, finL_snoc, hjl, Nat.zero_add, hg, htx2])
   obtain ⟨a5, c5, rfl⟩ := Ow.shape hw3
   refine gz_ ?_
   refine WC.draw 11 (.take 0 (.take 1 (.take 2 (.take 3 (.take 4 (.take 5 (.take 6 (.one 7 (.one 8 (.one 9 (.take 10 (.one 11 .done)))))))))))) ((b9, _) :: (b5, _) :: []) mixed xsb_ (by decide +kernel) ?_
   refine dz_ ?_
   refine WL.call rfl Tryz.call58 rfl rfl (by exact (specEntry_ok (i := j) (base := inf.length) hUj (by omega) hx hxN (by omega) hpArrj ho hnx (by omega))) ?_
   rintro r9 _ _ - ⟨rfl, cse, He, rfl, hE, rfl⟩
   obtain ⟨z1, z2, bb9, a7, n7, c7, rfl⟩ := EntC.shape hE
   refine dz_ ?_
   (refine WL.lit tab_ok rfl rfl rfl rfl rfl rfl rfl spi_ rfl ?_; intro bl)
   refine dz_ ?_
   refine WL.append tab_ok rfl rfl rfl rfl rfl rfl rfl rfl hve tk_ ((Ow.lit (s := 4) (b := bl) (k := 1) (l := [.int .i64 z1, .int .i64 z2, .bool bb9, .slice a7 n7 c7]) (T := 113) rfl).src tab_ok rfl t1_ (one_ent _ _ _ _ _ _)) (by omega) (by omega) (fun ve2 Se2 hve2 => ?_)
   obtain ⟨a6, c6, rfl⟩ := Ow.shape hve2
   refine dz_ ?_
   refine gz_ ?_
   refine WE.keepE hE tk_ (fun Γk hlek hEI => ?_)
   refine WE.again ⟨j + 1, Γk, _, Hs2, H2, _, ces ++ [.int .i64 z1, .int .i64 z2, .bool bb9, .slice a7 n7 c7], Se2, rfl, rfl, hlej.trans hlek, rfl, rfl, hlt, hw3, hpr2, hve2, ?_⟩ (by omega) ⟨rfl, rfl, rfl, rfl, rfl, rfl, rfl, rfl, rfl, rfl, congrArg (fun z => some (Value.int .i64 z)) hwi, trivial⟩ sn_
   rw [List.range_succ]
   exact (hces.imp fun _ _ h => h.mono hlek).append (LisC.one ⟨x, off, nx, hx, ho, hnx, hEI⟩)
set_option maxHeartbeats 4000000
theorem attT_of {v : Int} {w : Bool} {z : Int} {a : Att} (h : OkAtt v w z a) : AttT a := by
 have h1 := h.frm
 have h2 := h.at0
 have h3 := h.at1
 simp only [FormA] at h1
 exact ⟨by omega, by omega, by omega, by omega, h.slen, h.blen⟩
theorem okF_of {v : Int} {w : Bool} {z : Int} {a : Att} (h : OkAtt v w z a) : OkF (attA a) := by
 have h1 := h.frm
 have h2 := h.at0
 have h3 := h.at1
 simp only [FormA] at h1
 refine ⟨?_, ?_, ?_, ?_, ?_, fun hne => ?_⟩
 ·simp only [attA]
  cases hi : a.ind
  ·simp only [formsK, List.mem_cons, List.not_mem_nil, or_false, Bool.false_eq_true, if_false]; omega
  ·simp [formsK]
 ·simp only [attA]; omega
 ·simp only [attA]; omega
 ·simp only [attA]; split
  ·exact (i64w_bd _).1
  ·decide
 ·simp only [attA]; split
  ·exact (i64w_bd _).2
  ·decide
 ·simp only [attA] at hne ⊢
  by_cases h33 : a.form = 33
  ·cases hi : a.ind
   ·rw [hi, h33] at hne; exact absurd rfl hne
   ·exact absurd h33 (h.ind hi)
  ·rw [if_neg h33]
theorem okA_of {v : Int} {w : Bool} {z : Int} {i : Nat} {x : Nod} (hi : i < 65536) (hx : NodT x) (hA : ∀ a ∈ x.atts, OkAtt v w z a) : OkA (abbE i x) := by
 refine ⟨by simp only [abbE]; omega, by simp only [abbE]; omega, by have := hx.t1; simp only [abbE]; omega, fun f hf => ?_⟩
 simp only [abbE, List.mem_append, List.mem_map] at hf
 rcases hf with hf | ⟨a, ha, rfl⟩
 ·cases hs : x.sib
  ·rw [hs] at hf; simp at hf
  ·rw [hs] at hf
   simp only [if_true, List.mem_singleton] at hf
   subst hf
   exact ⟨by decide, by decide, by decide, by decide, by decide, fun _ => rfl⟩
 ·exact okF_of (hA a ha)
theorem absL_mem : ∀ {l : List Nod} {k i : Nat} {x : Nod}, l[i]? = some x → x.tag ≠ 0 → abbE (k + i) x ∈ absL k l
 | [], _, _, _, h, _ => by simp at h
 | y :: l, k, 0, x, h, ht => by
  injection h with h; subst h
  rw [absL, if_neg ht]; exact List.mem_append_left _ (List.mem_singleton.2 rfl)
 | y :: l, k, i + 1, x, h, ht => by
  rw [absL, show k + (i + 1) = k + 1 + i by omega]
  exact List.mem_append_right _ (absL_mem (by simpa using h) ht)
theorem absL_spec : ∀ {l : List Nod} {k : Nat} {b : Abb}, b ∈ absL k l → ∃ i x, l[i]? = some x ∧ b = abbE (k + i) x
 | [], _, _, h => by simp [absL] at h
 | y :: l, k, b, h => by
  rw [absL] at h
  rcases List.mem_append.1 h with h | h
  ·split at h
   ·simp at h
   ·rw [List.mem_singleton] at h; exact ⟨0, y, rfl, h⟩
  ·obtain ⟨i, x, h1, h2⟩ := absL_spec h
   exact ⟨i + 1, x, by simpa using h1, by rw [h2, show k + (i + 1) = k + 1 + i by omega]⟩
theorem absL_pair : ∀ {l : List Nod} {k : Nat}, (absL k l).Pairwise (fun a b => a.code ≠ b.code)
 | [], _ => List.Pairwise.nil
 | y :: l, k => by
  rw [absL, List.pairwise_append]
  refine ⟨?_, absL_pair, fun a ha b hb => ?_⟩
  ·split
   ·exact List.Pairwise.nil
   ·exact List.pairwise_singleton _ _
  ·obtain ⟨i, x, h1, h2⟩ := absL_spec hb
   split at ha
   ·simp at ha
   ·rw [List.mem_singleton] at ha
    rw [ha, h2]; simp only [abbE]; omega
def attsI (v : Int) (w : Bool) (z : Int) (big : Bool) (base : Nat) : Nat → Nat → List Att → List Itm
 | _, _, [] => []
 | so, lo, a :: l => attI v w z big base so lo a :: attsI v w z big base (so + (attS a).length) (lo + (attL a).length) l
theorem attsI_text {v : Int} {w : Bool} {z : Int} {big : Bool} {base : Nat} : ∀ {l : List Att} {so lo : Nat}, itexts (attsI v w z big base so lo l) = attsP v w z big so lo l
 | [], _, _ => rfl
 | a :: l, so, lo => by rw [attsI, itexts, attsI_text, attsP]; rfl
theorem attsI_abF {v : Int} {w : Bool} {z : Int} {big : Bool} {base : Nat} : ∀ {l : List Att} {so lo : Nat}, (attsI v w z big base so lo l).map Itm.abF = l.map attA
 | [], _, _ => rfl
 | a :: l, so, lo => by rw [attsI, List.map_cons, attsI_abF, List.map_cons]; rfl
theorem attsI_len {v : Int} {w : Bool} {z : Int} {big : Bool} {base : Nat} : ∀ {l : List Att} {so lo : Nat}, (attsI v w z big base so lo l).length = l.length
 | [], _, _ => rfl
 | a :: l, so, lo => by rw [attsI, List.length_cons, attsI_len, List.length_cons]
theorem attsI_ok {c : Ctx} {z : Int} (hz : z = 4 ∨ z = 8) (hcz : c.size = z.toNat) (hv : 2 ≤ c.vers) (hb : c.base < 2147483648) : ∀ {l : List Att} {so lo : Nat} {q r : List UInt8}, (∀ a ∈ l, OkAtt c.vers c.wide z a) →
  c.str.drop so = attsS l ++ q → c.lin.drop lo = attsL l ++ r → so + (attsS l).length < 2147483648 → lo + (attsL l).length < 2147483648 → ∀ x ∈ attsI c.vers c.wide z c.big c.base so lo l, OkItm c x ∧ 0 < x.attr ∧ x.attr < 114
 | [], _, _, _, _, _, _, _, _, _, x, hx => by simp [attsI] at hx
 | a :: l, so, lo, q, r, h, hS, hL, hs, hl, x, hx => by
  simp only [attsS, attsL, List.flatMap_cons, List.append_assoc, List.length_append] at hS hL hs hl
  have ha := h a (List.mem_cons_self ..)
  rcases List.mem_cons.1 hx with rfl | hx
  ·refine ⟨dec_att hz hcz hv ha hb (fun e => ⟨by omega, l.flatMap attS ++ q, ?_⟩) (fun e => ⟨by omega, l.flatMap attL ++ r, ?_⟩), ?_, ?_⟩
   ·rw [hS]; simp [attS, e]
   ·rw [hL]; simp [attL, e]
   ·have := ha.at0; simp only [attI]; omega
   ·have := ha.at1; have := ha.at0; simp only [attI]; omega
  ·refine attsI_ok hz hcz hv hb (q := q) (r := r) (fun b hb => h b (List.mem_cons_of_mem _ hb)) ?_ ?_ (by simp only [attsS]; omega) (by simp only [attsL]; omega) x hx
   ·rw [← List.drop_drop, hS, List.drop_left]; rfl
   ·rw [← List.drop_drop, hL, List.drop_left]; rfl
def sibI (big : Bool) (base nx : Nat) : Itm := ⟨1, 19, false, 0, fix (nx - base) 4 big, .o nx⟩
def nodI (v : Int) (w : Bool) (z : Int) (big : Bool) (base so lo nx : Nat) (x : Nod) : List Itm := (if x.sib then [sibI big base nx] else []) ++ attsI v w z big base so lo x.atts
theorem nodI_text {v : Int} {w : Bool} {z : Int} {big : Bool} {base so lo nx i : Nat} {x : Nod} (ht : x.tag ≠ 0) : nodE v w z big so lo i x (fix (nx - base) 4 big) = ulebL (1 + 50 * i) ++ itexts (nodI v w z big base so lo nx x) := by
 rw [nodE, if_neg ht, nodI]
 cases x.sib with
 | true =>
  simp only [if_true, List.singleton_append, itexts, attsI_text]
  simp [Itm.text, sibI]
 | false => simp [attsI_text]
theorem nodI_len {v : Int} {w : Bool} {z : Int} {big : Bool} {base so lo nx : Nat} {x : Nod} : (nodI v w z big base so lo nx x).length = (if x.sib then 1 else 0) + x.atts.length := by
 unfold nodI; rw [List.length_append, attsI_len]; cases x.sib <;> rfl
theorem die_nod {c : Ctx} {z : Int} {nods : List Nod} {i so lo nx : Nat} {x : Nod} {q r : List UInt8} (hx : nods[i]? = some x) (ht : x.tag ≠ 0) (hi : i < 65536) (hN : NodT x)
  (hz : z = 4 ∨ z = 8) (hcz : c.size = z.toNat) (hv : 2 ≤ c.vers) (hA : ∀ a ∈ x.atts, OkAtt c.vers c.wide z a) (hb : c.base < 2147483648)
  (hS : c.str.drop so = attsS x.atts ++ q) (hL : c.lin.drop lo = attsL x.atts ++ r) (hs : so + (attsS x.atts).length < 2147483648) (hl : lo + (attsL x.atts).length < 2147483648)
  (hnx : x.sib = true → c.base ≤ nx ∧ nx < 2147483648) : Die c (absL 0 nods) (abbE i x) (nodI c.vers c.wide z c.big c.base so lo nx x) := by
 have hm := absL_mem (k := 0) hx ht
 rw [Nat.zero_add] at hm
 have hall : ∀ y ∈ nodI c.vers c.wide z c.big c.base so lo nx x, OkItm c y ∧ 0 < y.attr ∧ y.attr < 114 := fun y hy => by
  rcases List.mem_append.1 hy with hy | hy
  ·cases hs : x.sib with
   | false => rw [hs] at hy; simp at hy
   | true =>
    rw [hs] at hy
    simp only [if_true, List.mem_singleton] at hy
    subst hy
    obtain ⟨h1, h2⟩ := hnx hs
    refine ⟨⟨(by decide : 1 < 4294967296), (fun h => by cases h), ?_⟩, (by decide : 0 < 1), (by decide : 1 < 114)⟩
    have := Dec.ref4 (c := c) (val := 0) (nx - c.base) (by omega)
    rw [show nx - c.base + c.base = nx by omega] at this
    exact this
  ·exact attsI_ok hz hcz hv hb hA hS hL hs hl y hy
 refine ⟨hm, okA_of hi hN hA, ?_, fun y hy => (hall y hy).2.2, fun y hy => (hall y hy).1, ?_⟩
 ·simp only [abbE, nodI, List.map_append, attsI_abF]
  cases x.sib <;> rfl
 ·rw [nodI_len]; have := hN.na; split <;> omega
theorem finL_split {v : Int} {w : Bool} {z : Int} {big : Bool} {base : Nat} {pl : List Nat} {all : List Nod} : ∀ {l : List Nod} {so lo k i : Nat} {x : Nod}, l[i]? = some x →
  ∃ pre post, finL v w z big base pl all so lo k l = pre ++ (nodE v w z big (so + (textS (l.take i)).length) (lo + (textL (l.take i)).length) (k + i) x (fix (pl.getD (aft all (k + i)) 0 - base) 4 big) ++ post) ∧ pre.length = sumL (nodL v w z big so lo k (l.take i))
 | [], _, _, _, _, _, h => by simp at h
 | y :: l, so, lo, k, 0, x, h => by
  injection h with h; subst h
  exact ⟨[], _, by rw [finL]; simp [textS, textL]; rfl, by simp [nodL, sumL, sumBy]⟩
 | y :: l, so, lo, k, i + 1, x, h => by
  obtain ⟨pre, post, h1, h2⟩ := finL_split (so := so + (attsS y.atts).length) (lo := lo + (attsL y.atts).length) (k := k + 1) (i := i) (l := l) (x := x) (v := v) (w := w) (z := z) (big := big) (base := base) (pl := pl) (all := all) (by simpa using h)
  refine ⟨nodE v w z big so lo k y (fix (pl.getD (aft all k) 0 - base) 4 big) ++ pre, post, ?_, ?_⟩
  ·rw [finL, h1, List.append_assoc, List.take_succ_cons, show k + (i + 1) = k + 1 + i by omega]
   simp only [textS, textL, List.flatMap_cons, List.length_append, Nat.add_assoc]
  ·rw [List.length_append, h2, List.take_succ_cons, nodL, nodE_len2 (fix_length _ _ _)]; rfl
theorem unitE_len {u : Uni} {big : Bool} {abo base so lo : Nat} : (unitE u big abo base so lo).length = hdz u big + sumL (nodL u.vers u.wide u.size big so lo 0 u.nods) := by
 simp only [unitE, List.length_append, lenB_length, hdz, hdrE_len, bodyU, finL_len]; omega
def puU (u : Uni) (big : Bool) (abo base so lo : Nat) : PU := ⟨u.wide, u.vers.toNat, u.size.toNat, abo, absL 0 u.nods, bodyU u big base so lo⟩
theorem fix1 {n : Nat} {big : Bool} : fix n 1 big = [UInt8.ofNat (n % 256)] := by cases big <;> rfl
theorem hdB_eq {u : Uni} {big : Bool} {abo base so lo : Nat} (hT : UniT u) : hdB big (puU u big abo base so lo) = hdrE u.vers u.size u.wide abo big := by
 have h2 := hT.v2
 have h5 := hT.v5
 have ho : offB u.wide abo big = fix abo (offSz u.wide) big := by cases u.wide <;> rfl
 have hs : u.size.toNat % 256 = u.size.toNat := by have := hT.sz; omega
 unfold hdB hdrE puU
 simp only [fix1, ho, hs]
 by_cases h : 4 < u.vers
 ·rw [if_pos h, if_pos (by omega)]; rfl
 ·rw [if_neg h, if_neg (by omega)]
theorem unitE_pu {u : Uni} {big : Bool} {abo base so lo : Nat} (hT : UniT u) : unitE u big abo base so lo = puB big (puU u big abo base so lo) := by
 have h1 := hdB_eq (big := big) (abo := abo) (base := base) (so := so) (lo := lo) hT
 have h2 := hdB_length big (puU u big abo base so lo)
 rw [h1] at h2
 simp only [unitE, puB, h1]
 rw [List.length_append, h2]; rfl
def abT (us : List Uni) : List UInt8 := us.flatMap fun u => encAs (absL 0 u.nods) ++ [0]
def strT (us : List Uni) : List UInt8 := us.flatMap fun u => textS u.nods
def linT (us : List Uni) : List UInt8 := us.flatMap fun u => textL u.nods
def pusU (big : Bool) : Nat → Nat → Nat → Nat → List Uni → List PU
 | _, _, _, _, [] => []
 | abo, base, so, lo, u :: us => puU u big abo base so lo :: pusU big (abo + ((encAs (absL 0 u.nods)).length + 1)) (base + (puB big (puU u big abo base so lo)).length) (so + (textS u.nods).length) (lo + (textL u.nods).length) us
structure UniK (u : Uni) : Prop extends UniT u where
 att : ∀ x ∈ u.nods, ∀ a ∈ x.atts, OkAtt u.vers u.wide u.size a
theorem pusU_ok {big : Bool} : ∀ {us : List Uni} {base so lo : Nat} {pre post : List UInt8}, (∀ u ∈ us, UniK u) → ∀ p ∈ pusU big pre.length base so lo us, OkPU (pre ++ (abT us ++ post)) p
 | [], _, _, _, _, _, _, p, hp => by simp [pusU] at hp
 | u :: us, base, so, lo, pre, post, h, p, hp => by
  have hu := h u (List.mem_cons_self ..)
  have e : pre ++ (abT (u :: us) ++ post) = pre ++ (encAs (absL 0 u.nods) ++ 0 :: (abT us ++ post)) := by simp [abT]
  rcases List.mem_cons.1 hp with rfl | hp
  ·have h2 := hu.v2
   have h5 := hu.v5
   have hs := hu.sz
   have hn := hu.n1
   refine ⟨by simp only [puU]; omega, by simp only [puU]; omega, by simp only [puU]; omega, fun a ha => ?_, absL_pair, pre, abT us ++ post, e, rfl⟩
   obtain ⟨i, x, hx, rfl⟩ := absL_spec ha
   have hil := (List.getElem?_eq_some_iff.1 hx).1
   exact okA_of (by omega) (hu.nod x (List.mem_of_getElem? hx)) (hu.att x (List.mem_of_getElem? hx))
  ·have := pusU_ok (big := big) (us := us) (pre := pre ++ (encAs (absL 0 u.nods) ++ [0])) (post := post) (fun y hy => h y (List.mem_cons_of_mem _ hy)) p (by
    have e2 : (pre ++ (encAs (absL 0 u.nods) ++ [0])).length = pre.length + ((encAs (absL 0 u.nods)).length + 1) := by simp
    rw [e2]; exact hp)
   rw [e]; simpa using this
end Go.Proofs.YtbgkbgoonjkghaaGreatDoor
