/- Parts of the proof: Ib Hk Hl Hm Hn Ic Da Db Dc. -/
import Derived.Test.YtbgkbgoonjkghaaGreatDoorA3
import Derived.Test.YtbgkbgoonjkghaaGreatDoorA6
import Derived.Test.YtbgkbgoonjkghaaGreatDoorA7
import Derived.Test.YtbgkbgoonjkghaaGreatDoorA5
namespace Go.Proofs.YtbgkbgoonjkghaaGreatDoor
open Go Go.Sl
set_option maxRecDepth 10000
set_option maxHeartbeats 4000000
abbrev noS : ByteArray := ⟨#[]⟩
abbrev attN (a f : Int) (n : Nat) : Att := ⟨a, f, false, n, noS, []⟩
def spanA (l : Lay) (x : Spn) (k : Nat) : List Att :=
 attN 17 1 x.low :: (if x.lst then [attN 85 (if l.vers < 4 then (if l.wide then 7 else 6) else 23) k] else if x.len then [attN 18 7 (x.high - x.low)] else [attN 18 1 x.high])
def keepA (a : Att) : Bool := a.attr != 17 && a.attr != 18 && a.attr != 16 && a.attr != 82 && a.attr != 85 && a.attr != 27
def spanN (l : Lay) (x : Spn) (k : Nat) (n : Nod) : Nod := ⟨17, n.ch, false, spanA l x k ++ n.atts.filter keepA⟩
def nodsS (l : Lay) (x : Spn) (k : Nat) : List Nod → List Nod
 | [] => []
 | n :: r => spanN l x k n :: r
def uniS (l : Lay) (x : Spn) (k : Nat) (u : Uni) : Uni := ⟨l.vers, l.wide, l.size, nodsS l x k u.nods⟩
def pieT (l : Lay) (p : Pie) : List UInt8 :=
 if l.vers < 5 then
  (if p.kind = 1 then fix (if l.size = 4 then 4294967295 else 18446744073709551615) l.size.toNat l.big ++ fix p.a l.size.toNat l.big else fix p.a l.size.toNat l.big ++ fix p.b l.size.toNat l.big)
 else if p.kind = 0 then 4 :: (ulebL p.a ++ ulebL p.b)
 else if p.kind = 1 then 5 :: fix p.a l.size.toNat l.big
 else if p.kind = 2 then 6 :: (fix p.a l.size.toNat l.big ++ fix p.b l.size.toNat l.big)
 else if p.kind = 3 then 7 :: (fix p.a l.size.toNat l.big ++ ulebL p.b)
 else []
def piesT (l : Lay) (ps : List Pie) : List UInt8 := ps.flatMap (pieT l)
def lstT (l : Lay) (x : Spn) : List UInt8 := piesT l x.pies ++ (if l.vers < 5 then fix 0 l.size.toNat l.big ++ fix 0 l.size.toNat l.big else [0])
def lstZ (l : Lay) (x : Spn) : List UInt8 := if x.lst then lstT l x else []
def lstsT (l : Lay) (sp : List Spn) : List UInt8 := sp.flatMap (lstZ l)
def lhB (l : Lay) (body : List UInt8) : List UInt8 := fix 5 2 l.big ++ ([UInt8.ofNat l.size.toNat, 0] ++ (fix 0 4 l.big ++ body))
def headT (l : Lay) (body : List UInt8) : List UInt8 := lenB l.wide (lhB l body).length l.big ++ lhB l body
def bgn (l : Lay) : Nat := if 4 < l.vers then (headT l []).length else 0
theorem headT_len (l : Lay) (body : List UInt8) : (headT l body).length = lsz l.wide + 8 + body.length := by
 simp only [headT, lhB, List.length_append, lenB_length, fix_length, List.length_cons, List.length_nil]; omega
def atsS (l : Lay) : Nat → List Spn → List Nat
 | _, [] => []
 | b, x :: r => b :: atsS l (b + (lstZ l x).length) r
def unisS (l : Lay) : List Nat → List Spn → List Uni → List Uni
 | k :: ks, x :: sp, u :: us => uniS l x k u :: unisS l ks sp us
 | _, _, _ => []
set_option maxHeartbeats 40000000
theorem unitOf_ok {Γ : Env} {H : List Blk} {l : Lay} {a : Option Addr} {n cap : Nat} :
  Spc Tryz.prog 21 #[layV l, .slice a n cap] Γ H (fun v Γ' H' => Γ = Γ' ∧ H = H' ∧ v = .agg #[.int .i64 l.vers, .bool l.wide, .int .i64 l.size, .slice a n cap]) := by
 refine Spc.body2 Tryz.func21 rfl Tryz.ntmps21 rfl ?_
 refine WC.seq ?_
 refine WC.region ?_
 (refine WL.box rfl spi_ rfl ?_; intro b2)
 (refine WL.alloc tab_ok rfl rfl ?_; intro b4)
 refine gz_ ?_
 refine WE.re (H2 := (b4, cel [.int .i64 l.vers, .bool l.wide, .int .i64 l.size, .slice a n cap] 60) :: H) sn_ ?_
 exact end_c tab_ok rfl rfl rfl rfl Pick.here rfl (Env.le.rfl' _) ⟨rfl, rfl, rfl⟩
abbrev layC (l : Lay) : Obj := cel [.int .i64 l.vers, .bool l.wide, .int .i64 l.size, .bool l.big, .bool l.far] 23
def attV (a : Att) : List Value := [.int .i64 a.attr, .int .i64 a.form, .bool false, .int .u64 (a.n : Int), noStr, nilS]
def attVs : List Att → List Value
 | [] => []
 | a :: l => attV a ++ attVs l
def baseU (big : Bool) (us : List Uni) (k : Nat) : Nat := (pusB big (pusU big 0 0 0 0 (us.take k))).length
def FndC (Γ : Env) (big : Bool) (us : List Uni) (k : Nat) (c : List Value) : Prop :=
 ∃ u ve, us[k]? = some u ∧ c = [.int .i64 (baseU big us k : Int), ve] ∧ Arr Γ (EntN Γ u.vers (baseU big us k) (plU u big (baseU big us k) (strT (us.take k)).length (linT (us.take k)).length) u.nods) ve (List.range u.nods.length)
theorem FndC.len {Γ : Env} {big : Bool} {us : List Uni} {k : Nat} {c : List Value} (h : FndC Γ big us k c) : c.length = 2 := by obtain ⟨u, ve, -, rfl, -⟩ := h; rfl
theorem FndC.mono {Γ Γ' : Env} (hle : Γ.le Γ') {big : Bool} {us : List Uni} {k : Nat} {c : List Value} (h : FndC Γ big us k c) : FndC Γ' big us k c := by
 obtain ⟨u, ve, h1, h2, h3⟩ := h
 exact ⟨u, ve, h1, h2, h3.mono hle fun _ _ h => h.mono hle⟩
theorem unitK_w {u : Uni} (h : UniT u) (hn : ∀ x ∈ u.nods, ∀ a ∈ x.atts, a.n < 18446744073709551616) {big : Bool} {abo base so lo : Nat} : (puB big (puU u big abo base so lo)).length ≤ 250000 + wU u := by
 have h1 := unitE_len (u := u) (big := big) (abo := abo) (base := base) (so := so) (lo := lo)
 rw [unitE_pu h] at h1
 have h2 := sumL_le (v := u.vers) (w := u.wide) (z := u.size) (big := big) (so := so) (lo := lo) (k := 0) (l := u.nods) h.sz (by have := h.n1; omega) fun x hx => ⟨h.nod x hx, hn x hx⟩
 have h3 : hdz u big ≤ 24 := by rw [hdz, hdrE_len]; cases u.wide <;> split <;> decide
 have h4 := h.n1
 have h5 : sumBy wN u.nods = wU u := rfl
 omega
theorem UniK.num {u : Uni} (h : UniK u) : ∀ x ∈ u.nods, ∀ a ∈ x.atts, a.n < 18446744073709551616 := fun x hx a ha => (h.att x hx a ha).n64
theorem abT_w : ∀ {us : List Uni}, (∀ u ∈ us, UniK u) → (abT us).length ≤ 25000000 * us.length
 | [], _ => by simp [abT]
 | u :: us, h => by
  have hu := (h u (List.mem_cons_self ..))
  have h1 := encAs_len (l := u.nods) (k := 0) (by have := hu.n1; omega) hu.nod
  have h2 := abT_w (us := us) fun y hy => h y (List.mem_cons_of_mem _ hy)
  have h3 := hu.n1
  simp only [abT, List.flatMap_cons, List.length_append, List.length_cons, List.length_nil] at h2 ⊢; omega
theorem strT_w : ∀ us : List Uni, (strT us).length ≤ sumBy wU us
 | [] => by simp [strT]
 | u :: us => by have h1 := textS_len u.nods; have h2 := strT_w us; simp only [strT, List.flatMap_cons, List.length_append, sumBy, wU] at *; omega
theorem linT_w : ∀ us : List Uni, (linT us).length ≤ sumBy wU us
 | [] => by simp [linT]
 | u :: us => by have h1 := textL_len u.nods; have h2 := linT_w us; simp only [linT, List.flatMap_cons, List.length_append, sumBy, wU] at *; omega
def mkU (l : Lay) (sp : List Spn) (us : List Uni) : List Uni := unisS l (atsS l (bgn l) sp) sp us
set_option maxHeartbeats 4000000
theorem flat_split {α β : Type} (f : α → List β) : ∀ {l : List α} {i : Nat} {x : α}, l[i]? = some x → ∃ q, l.flatMap f = (l.take i).flatMap f ++ (f x ++ q)
 | [], _, _, h => by simp at h
 | y :: l, 0, x, h => by injection h with h; subst h; exact ⟨_, rfl⟩
 | y :: l, i + 1, x, h => by
  obtain ⟨q, hq⟩ := flat_split f (l := l) (i := i) (x := x) (by simpa using h)
  exact ⟨q, by rw [List.take_succ_cons, List.flatMap_cons, List.flatMap_cons, hq, List.append_assoc]⟩
theorem drop_at {β : Type} {a b c : List β} {n : Nat} (h : c = a ++ b) (hn : n = a.length) : c.drop n = b := by rw [h, hn, List.drop_left]
def puAt (big : Bool) (U : List Uni) (k : Nat) (u : Uni) : PU := puU u big (abT (U.take k)).length (baseU big U k) (strT (U.take k)).length (linT (U.take k)).length
theorem pusU_get {big : Bool} : ∀ {U : List Uni} {k : Nat} {u : Uni} {abo base so lo : Nat}, U[k]? = some u →
  (pusU big abo base so lo U)[k]? = some (puU u big (abo + (abT (U.take k)).length) (base + (pusB big (pusU big abo base so lo (U.take k))).length) (so + (strT (U.take k)).length) (lo + (linT (U.take k)).length))
 | [], _, _, _, _, _, _, h => by simp at h
 | y :: U, 0, u, abo, base, so, lo, h => by
  injection h with h; subst h
  simp [pusU, abT, strT, linT, pusB]
 | y :: U, k + 1, u, abo, base, so, lo, h => by
  rw [pusU, List.getElem?_cons_succ, pusU_get (by simpa using h), List.take_succ_cons, pusU, pusB]
  simp only [abT, strT, linT, List.flatMap_cons, List.length_append, List.length_cons, List.length_nil, Nat.add_assoc, Nat.zero_add]
theorem puAt_get {big : Bool} {U : List Uni} {k : Nat} {u : Uni} (h : U[k]? = some u) : (pusU big 0 0 0 0 U)[k]? = some (puAt big U k u) := by
 rw [pusU_get h]; simp only [Nat.zero_add]; rfl
theorem pusU_take {big : Bool} : ∀ {U : List Uni} {k abo base so lo : Nat}, (pusU big abo base so lo U).take k = pusU big abo base so lo (U.take k)
 | [], k, _, _, _, _ => by simp [pusU]
 | y :: U, 0, _, _, _, _ => by simp [pusU]
 | y :: U, k + 1, _, _, _, _ => by rw [pusU, List.take_succ_cons, pusU_take, List.take_succ_cons, pusU]
theorem baseU_eq {big : Bool} {U : List Uni} {k : Nat} : baseU big U k = (pusB big ((pusU big 0 0 0 0 U).take k)).length := by rw [pusU_take]; rfl
def itsAt (big : Bool) (U : List Uni) (k : Nat) (u : Uni) (i : Nat) (x : Nod) : List Itm :=
 nodI u.vers u.wide u.size big (baseU big U k) ((strT (U.take k)).length + (textS (u.nods.take i)).length) ((linT (U.take k)).length + (textL (u.nods.take i)).length)
  ((plU u big (baseU big U k) (strT (U.take k)).length (linT (U.take k)).length).getD (aft u.nods i) 0) x
def offN (big : Bool) (U : List Uni) (k : Nat) (u : Uni) (i : Nat) : Nat :=
 sumL (nodL u.vers u.wide u.size big (strT (U.take k)).length (linT (U.take k)).length 0 (u.nods.take i))
theorem die_at {big : Bool} {U : List Uni} {k : Nat} {u : Uni} (hU : ∀ u ∈ U, UniK u) (hk : U[k]? = some u) (hw : (pusB big (pusU big 0 0 0 0 U)).length < 2147483648) (hs : (strT U).length < 2147483648) (hl : (linT U).length < 2147483648)
  {i : Nat} {x : Nod} (hx : u.nods[i]? = some x) (ht : x.tag ≠ 0) :
  ∃ pre post, (puAt big U k u).body = pre ++ (ulebL (abbE i x).code ++ (itexts (itsAt big U k u i x) ++ post)) ∧ pre.length = offN big U k u i ∧
   Die (uctx big (strT U) (linT U) (baseU big U k) (puAt big U k u)) (puAt big U k u).abs (abbE i x) (itsAt big U k u i x) := by
 have hu := hU u (List.mem_of_getElem? hk)
 have hil := (List.getElem?_eq_some_iff.1 hx).1
 have hn1 := hu.n1
 have hv2 := hu.v2
 have hsz := hu.sz
 obtain ⟨pre, post, h1, h2⟩ := finL_split (v := u.vers) (w := u.wide) (z := u.size) (big := big) (base := baseU big U k) (pl := plU u big (baseU big U k) (strT (U.take k)).length (linT (U.take k)).length) (all := u.nods)
  (so := (strT (U.take k)).length) (lo := (linT (U.take k)).length) (k := 0) hx
 rw [Nat.zero_add, nodI_text ht, List.append_assoc] at h1
 refine ⟨pre, post, h1, h2, ?_⟩
 have hsplit := pusB_split big (pusU big 0 0 0 0 U) k
 rw [pusB_drop (puAt_get hk), List.length_append, ← baseU_eq] at hsplit
 have hpl := unitE_len (u := u) (big := big) (abo := (abT (U.take k)).length) (base := baseU big U k) (so := (strT (U.take k)).length) (lo := (linT (U.take k)).length)
 rw [unitE_pu hu.toUniT] at hpl
 have hpl2 : (puB big (puAt big U k u)).length = hdz u big + sumL (nodL u.vers u.wide u.size big (strT (U.take k)).length (linT (U.take k)).length 0 u.nods) := hpl
 have hvv : ((u.vers.toNat : Nat) : Int) = u.vers := by omega
 have hc : uctx big (strT U) (linT U) (baseU big U k) (puAt big U k u) = ⟨u.vers, u.wide, u.size.toNat, baseU big U k, big, strT U, linT U⟩ := by
  show (⟨((u.vers.toNat : Nat) : Int), u.wide, u.size.toNat, baseU big U k, big, strT U, linT U⟩ : Ctx) = _
  rw [hvv]
 rw [hc]
 obtain ⟨q1, g1⟩ := flat_split (fun u : Uni => textS u.nods) hk
 obtain ⟨q2, g2⟩ := flat_split (fun x : Nod => attsS x.atts) hx
 obtain ⟨r1, f1⟩ := flat_split (fun u : Uni => textL u.nods) hk
 obtain ⟨r2, f2⟩ := flat_split (fun x : Nod => attsL x.atts) hx
 have e1 : strT U = (strT (U.take k) ++ textS (u.nods.take i)) ++ (attsS x.atts ++ (q2 ++ q1)) := by
  have : textS u.nods = textS (u.nods.take i) ++ (attsS x.atts ++ q2) := g2
  show U.flatMap (fun u => textS u.nods) = _
  rw [g1, this]; simp [strT]
 have e2 : linT U = (linT (U.take k) ++ textL (u.nods.take i)) ++ (attsL x.atts ++ (r2 ++ r1)) := by
  have : textL u.nods = textL (u.nods.take i) ++ (attsL x.atts ++ r2) := f2
  show U.flatMap (fun u => textL u.nods) = _
  rw [f1, this]; simp [linT]
 have l1 : (strT U).length = (strT (U.take k)).length + (textS (u.nods.take i)).length + (attsS x.atts).length + (q2 ++ q1).length := by rw [e1]; simp only [List.length_append]; omega
 have l2 : (linT U).length = (linT (U.take k)).length + (textL (u.nods.take i)).length + (attsL x.atts).length + (r2 ++ r1).length := by rw [e2]; simp only [List.length_append]; omega
 refine die_nod (c := ⟨u.vers, u.wide, u.size.toNat, baseU big U k, big, strT U, linT U⟩) hx ht (by omega) (hu.nod x (List.mem_of_getElem? hx)) hu.sz rfl hu.v2 (hu.att x (List.mem_of_getElem? hx)) (by show baseU big U k < _; omega)
  (drop_at e1 (by rw [List.length_append])) (drop_at e2 (by rw [List.length_append])) (by omega) (by omega) (fun _ => ?_)
 have haft := aft_le u.nods (Nat.le_of_lt hil)
 have hpll : (plU u big (baseU big U k) (strT (U.take k)).length (linT (U.take k)).length).length = u.nods.length + 1 := by rw [plU, plN_length, nodL_length]
 obtain ⟨nx, hnx⟩ : ∃ o, (plU u big (baseU big U k) (strT (U.take k)).length (linT (U.take k)).length)[aft u.nods i]? = some o := ⟨_, List.getElem?_eq_getElem (by omega)⟩
 have hnv := plN_get hnx
 have hle : sumL ((nodL u.vers u.wide u.size big (strT (U.take k)).length (linT (U.take k)).length 0 u.nods).take (aft u.nods i)) ≤ sumL (nodL u.vers u.wide u.size big (strT (U.take k)).length (linT (U.take k)).length 0 u.nods) := sumBy_take_le _ _ _
 rw [List.getD_eq_getElem?_getD, hnx, Option.getD_some]
 show baseU big U k ≤ nx ∧ nx < _
 omega
structure MkR (l : Lay) (sp : List Spn) (us : List Uni) : Prop where
 uni : ∀ u ∈ mkU l sp us, UniK u
 len : (mkU l sp us).length = us.length
 n0 : 0 < us.length
 n4 : us.length ≤ 4
 ab : (abT (mkU l sp us)).length < 2147483648
 inf : (pusB l.big (pusU l.big 0 0 0 0 (mkU l sp us))).length < 2147483648
 str : (strT (mkU l sp us)).length < 2147483648
 lin : (linT (mkU l sp us)).length < 2147483648
 lst : ∀ k, (lstsT l (sp.take k)).length ≤ 8800
 lstA : (lstsT l sp).length ≤ 8800
theorem MkR.ok {l : Lay} {sp : List Spn} {us : List Uni} (h : MkR l sp us) : ∀ p ∈ pusU l.big 0 0 0 0 (mkU l sp us), OkPU (abT (mkU l sp us)) p := fun p hp => by
 have := pusU_ok (big := l.big) (base := 0) (so := 0) (lo := 0) (pre := []) (post := []) h.uni p hp
 simpa using this
theorem MkR.rg {l : Lay} {sp : List Spn} {us : List Uni} (h : MkR l sp us) : (if 4 < l.vers then [] else lstsT l sp).length < 2147483648 := by
 have := h.lstA; split
 ·simp
 ·omega
theorem MkR.rl {l : Lay} {sp : List Spn} {us : List Uni} (h : MkR l sp us) : ∀ r, (if 4 < l.vers then some (headT l (lstsT l sp)) else none) = some r → r.length < 2147483648 := fun r hr => by
 have := h.lstA
 split at hr
 ·injection hr with hr
  rw [← hr, headT_len]; have := lsz_bd l.wide; omega
 ·cases hr
set_option maxHeartbeats 40000000
structure Mem where
 name : ByteArray
 off : Int
 of : Int
structure Con where
 name : ByteArray
 val : Int
structure Df where
 kind : Int
 name : ByteArray
 which : Int
 size : Int
 of : Int
 cnts : List Int
 upper : Bool
 inc : Bool
 mems : List Mem
 pars : List Int
 cons : List Con
def NumC (z : Int) (c : List Value) : Prop := c = [.int .i64 z]
theorem NumC.len {z : Int} {c : List Value} (h : NumC z c) : c.length = 1 := by rw [h]; rfl
def MemC (x : Mem) (c : List Value) : Prop := c = [.string x.name, .int .i64 x.off, .int .i64 x.of]
theorem MemC.len {x : Mem} {c : List Value} (h : MemC x c) : c.length = 3 := by rw [h]; rfl
def ConC (x : Con) (c : List Value) : Prop := c = [.string x.name, .int .i64 x.val]
theorem ConC.len {x : Con} {c : List Value} (h : ConC x c) : c.length = 2 := by rw [h]; rfl
def DfC (Γ : Env) (x : Df) (c : List Value) : Prop := ∃ v1 v2 v3 v4, c = [.int .i64 x.kind, .string x.name, .int .i64 x.which, .int .i64 x.size, .int .i64 x.of, v1, .bool x.upper, .bool x.inc, v2, v3, v4] ∧ Arr Γ NumC v1 x.cnts ∧ Arr Γ MemC v2 x.mems ∧ Arr Γ NumC v3 x.pars ∧ Arr Γ ConC v4 x.cons
theorem DfC.len {Γ : Env} {x : Df} {c : List Value} (h : DfC Γ x c) : c.length = 11 := by obtain ⟨_, _, _, _, rfl, -⟩ := h; rfl
theorem DfC.mono {Γ Γ' : Env} (hle : Γ.le Γ') {x : Df} {c : List Value} (h : DfC Γ x c) : DfC Γ' x c := by
 obtain ⟨v1, v2, v3, v4, rfl, h1, h2, h3, h4⟩ := h
 exact ⟨v1, v2, v3, v4, rfl, h1.mono hle fun _ _ h => h, h2.mono hle fun _ _ h => h, h3.mono hle fun _ _ h => h, h4.mono hle fun _ _ h => h⟩
def FitM (x : Mem) : Prop := x.name.size ≤ 2147483647
def FitC (x : Con) : Prop := x.name.size ≤ 2147483647
structure FitD (x : Df) : Prop where
 name : x.name.size ≤ 2147483647
 cnts : x.cnts.length ≤ 2147483647
 meml : x.mems.length ≤ 2147483647
 mem : ∀ m ∈ x.mems, FitM m
 pars : x.pars.length ≤ 2147483647
 conl : x.cons.length ≤ 2147483647
 con : ∀ m ∈ x.cons, FitC m
theorem zzFits4_ok {Γ : Env} {H : List Blk} {x : Mem} {c : List Value} (h : MemC x c) :
  Spc Tryz.prog 45 #[.agg c.toArray] Γ H (fun v Γ' H' => Γ = Γ' ∧ H = H' ∧ ∃ b, v = .bool b ∧ (b = true → FitM x)) := by
 unfold MemC at h
 subst h
 refine Spc.body1 Tryz.func45 rfl Tryz.ntmps45 rfl ?_
 refine WC.seq ?_
 refine WC.region ?_
 (refine WL.box rfl spi_ rfl ?_; intro b)
 refine gz_ ?_
 cases h1 : decide ((2147483647 : Int) < (x.name.size : Int)) with
 | true =>
  refine gz_ ?_
  refine WE.drop (b := b) pk_ ?_
  exact end_1 rfl rfl (Env.le.rfl' _) ⟨rfl, rfl, false, rfl, fun h => by cases h⟩
 | false =>
  refine gz_ ?_
  refine WE.drop (b := b) pk_ ?_
  have h1' := of_decide_eq_false h1
  exact end_1 rfl rfl (Env.le.rfl' _) ⟨rfl, rfl, true, rfl, fun _ => by unfold FitM; omega⟩
theorem zzFits6_ok {Γ : Env} {H : List Blk} {x : Con} {c : List Value} (h : ConC x c) :
  Spc Tryz.prog 46 #[.agg c.toArray] Γ H (fun v Γ' H' => Γ = Γ' ∧ H = H' ∧ ∃ b, v = .bool b ∧ (b = true → FitC x)) := by
 unfold ConC at h
 subst h
 refine Spc.body1 Tryz.func46 rfl Tryz.ntmps46 rfl ?_
 refine WC.seq ?_
 refine WC.region ?_
 (refine WL.box rfl spi_ rfl ?_; intro b)
 refine gz_ ?_
 cases h1 : decide ((2147483647 : Int) < (x.name.size : Int)) with
 | true =>
  refine gz_ ?_
  refine WE.drop (b := b) pk_ ?_
  exact end_1 rfl rfl (Env.le.rfl' _) ⟨rfl, rfl, false, rfl, fun h => by cases h⟩
 | false =>
  refine gz_ ?_
  refine WE.drop (b := b) pk_ ?_
  have h1' := of_decide_eq_false h1
  exact end_1 rfl rfl (Env.le.rfl' _) ⟨rfl, rfl, true, rfl, fun _ => by unfold FitC; omega⟩
theorem zzFits3_ok {Γ : Env} {H : List Blk} {xs : List Mem} {v : Value} (h : Arr Γ (MemC) v xs) :
  Spc Tryz.prog 30 #[v] Γ H (fun v Γ' H' => Γ = Γ' ∧ H = H' ∧ ∃ b, v = .bool b ∧ (b = true → xs.length ≤ 2147483647 ∧ ∀ x ∈ xs, FitM x)) := by
 obtain ⟨a, cap, cells, rfl, hcap, hA, hL⟩ := h
 refine Spc.body1 Tryz.func30 rfl Tryz.ntmps30 rfl ?_
 refine gz_ ?_
 cases h1 : decide ((2147483647 : Int) < (xs.length : Int)) with
 | true =>
  refine gz_ ?_
  exact end_1 rfl rfl (Env.le.rfl' _) ⟨rfl, rfl, false, rfl, fun h => by cases h⟩
 | false =>
  have h1' := of_decide_eq_false h1
  refine gz_ ?_
  refine WC.loopE (fun m R' Γ' H' => ∃ i, R' = [(8, .slice a xs.length cap), (9, .int .i64 (xs.length : Int)), (10, .int .i64 ((i : Nat) : Int))] ∧ Γ = Γ' ∧ H' = H ∧ m = xs.length - i ∧ i ≤ xs.length ∧ ∀ y ∈ xs.take i, FitM y)
   ⟨0, rfl, rfl, rfl, rfl, Nat.zero_le _, fun y hy => by simp at hy⟩ sr_ (fun _ h => h) ?_
  rintro m R' Γ' H' ⟨i, rfl, rfl, rfl, rfl, hi, hf⟩
  rcases Nat.lt_or_ge i xs.length with hlt | hge
  case inr =>
   have ei : i = xs.length := by omega
   subst ei
   refine gz_ ?_
   refine WC.condF rfl (decide_eq_false (by omega)) ?_
   refine gz_ ?_
   rw [List.take_length] at hf
   exact end_1 rfl rfl (Env.le.rfl' _) ⟨rfl, rfl, true, rfl, fun _ => ⟨by omega, hf⟩⟩
  case inl =>
   obtain ⟨x, hx⟩ : ∃ x, xs[i]? = some x := ⟨_, List.getElem?_eq_getElem hlt⟩
   obtain ⟨bb, oo, c, rfl, hP, hc⟩ := elemA hA hL (fun _ _ h => h.len) (w := 3) (by decide) hx
   have hP' := hP
   unfold MemC at hP
   subst hP
   refine gz_ ?_
   refine WC.condT rfl tr_ ?_
   refine gz_ ?_
   (refine WL.alloc tab_ok rfl rfl ?_; intro b4)
   refine gz_ ?_
   refine WL.call rfl Tryz.call45 rfl rfl (by exact (zzFits4_ok hP')) ?_
   rintro _ _ _ - ⟨rfl, rfl, bl, rfl, hbl⟩
   refine gz_ ?_
   cases bl with
   | false =>
    refine gz_ ?_
    refine WE.drop (b := b4) pk_ ?_
    exact end_1 rfl rfl (Env.le.rfl' _) ⟨rfl, rfl, false, rfl, fun h => by cases h⟩
   | true =>
    refine gz_ ?_
    have hwi : IntKind.i64.wrap ((i : Int) + 1) = (i : Int) + 1 := w_i64 (by omega) (by omega)
    exact WE.again ⟨i + 1, rfl, rfl, rfl, rfl, hlt, mem_drop_of hx hf (hbl rfl)⟩ (by omega) ⟨rfl, rfl, congrArg (fun z => some (Value.int .i64 z)) hwi, trivial⟩ sm_
theorem zzFits5_ok {Γ : Env} {H : List Blk} {xs : List Con} {v : Value} (h : Arr Γ (ConC) v xs) :
  Spc Tryz.prog 31 #[v] Γ H (fun v Γ' H' => Γ = Γ' ∧ H = H' ∧ ∃ b, v = .bool b ∧ (b = true → xs.length ≤ 2147483647 ∧ ∀ x ∈ xs, FitC x)) := by
 obtain ⟨a, cap, cells, rfl, hcap, hA, hL⟩ := h
 refine Spc.body1 Tryz.func31 rfl Tryz.ntmps31 rfl ?_
 refine gz_ ?_
 cases h1 : decide ((2147483647 : Int) < (xs.length : Int)) with
 | true =>
  refine gz_ ?_
  exact end_1 rfl rfl (Env.le.rfl' _) ⟨rfl, rfl, false, rfl, fun h => by cases h⟩
 | false =>
  have h1' := of_decide_eq_false h1
  refine gz_ ?_
  refine WC.loopE (fun m R' Γ' H' => ∃ i, R' = [(8, .slice a xs.length cap), (9, .int .i64 (xs.length : Int)), (10, .int .i64 ((i : Nat) : Int))] ∧ Γ = Γ' ∧ H' = H ∧ m = xs.length - i ∧ i ≤ xs.length ∧ ∀ y ∈ xs.take i, FitC y)
   ⟨0, rfl, rfl, rfl, rfl, Nat.zero_le _, fun y hy => by simp at hy⟩ sr_ (fun _ h => h) ?_
  rintro m R' Γ' H' ⟨i, rfl, rfl, rfl, rfl, hi, hf⟩
  rcases Nat.lt_or_ge i xs.length with hlt | hge
  case inr =>
   have ei : i = xs.length := by omega
   subst ei
   refine gz_ ?_
   refine WC.condF rfl (decide_eq_false (by omega)) ?_
   refine gz_ ?_
   rw [List.take_length] at hf
   exact end_1 rfl rfl (Env.le.rfl' _) ⟨rfl, rfl, true, rfl, fun _ => ⟨by omega, hf⟩⟩
  case inl =>
   obtain ⟨x, hx⟩ : ∃ x, xs[i]? = some x := ⟨_, List.getElem?_eq_getElem hlt⟩
   obtain ⟨bb, oo, c, rfl, hP, hc⟩ := elemA hA hL (fun _ _ h => h.len) (w := 2) (by decide) hx
   have hP' := hP
   unfold ConC at hP
   subst hP
   refine gz_ ?_
   refine WC.condT rfl tr_ ?_
   refine gz_ ?_
   (refine WL.alloc tab_ok rfl rfl ?_; intro b4)
   refine gz_ ?_
   refine WL.call rfl Tryz.call46 rfl rfl (by exact (zzFits6_ok hP')) ?_
   rintro _ _ _ - ⟨rfl, rfl, bl, rfl, hbl⟩
   refine gz_ ?_
   cases bl with
   | false =>
    refine gz_ ?_
    refine WE.drop (b := b4) pk_ ?_
    exact end_1 rfl rfl (Env.le.rfl' _) ⟨rfl, rfl, false, rfl, fun h => by cases h⟩
   | true =>
    refine gz_ ?_
    have hwi : IntKind.i64.wrap ((i : Int) + 1) = (i : Int) + 1 := w_i64 (by omega) (by omega)
    exact WE.again ⟨i + 1, rfl, rfl, rfl, rfl, hlt, mem_drop_of hx hf (hbl rfl)⟩ (by omega) ⟨rfl, rfl, congrArg (fun z => some (Value.int .i64 z)) hwi, trivial⟩ sm_
theorem zzFits2_ok {Γ : Env} {H : List Blk} {x : Df} {c : List Value} (h : DfC Γ x c) :
  Spc Tryz.prog 15 #[.agg c.toArray] Γ H (fun v Γ' H' => Γ = Γ' ∧ H = H' ∧ ∃ b, v = .bool b ∧ (b = true → FitD x)) := by
 obtain ⟨v1, v2, v3, v4, rfl, g1, g2, g3, g4⟩ := h
 have k2 := g2
 have k4 := g4
 obtain ⟨a1, p1, l1, rfl, -, -, -⟩ := g1
 obtain ⟨a2, p2, l2, rfl, -, -, -⟩ := g2
 obtain ⟨a3, p3, l3, rfl, -, -, -⟩ := g3
 obtain ⟨a4, p4, l4, rfl, -, -, -⟩ := g4
 refine Spc.body1 Tryz.func15 rfl Tryz.ntmps15 rfl ?_
 refine WC.seq ?_
 refine WC.region ?_
 (refine WL.box rfl spi_ rfl ?_; intro b)
 refine gz_ ?_
 cases h1 : decide ((2147483647 : Int) < (x.name.size : Int)) with
 | true =>
  refine gz_ ?_
  refine WE.drop (b := b) pk_ ?_
  exact end_1 rfl rfl (Env.le.rfl' _) ⟨rfl, rfl, false, rfl, fun h => by cases h⟩
 | false =>
 refine gz_ ?_
 cases h2 : decide ((2147483647 : Int) < (x.cnts.length : Int)) with
 | true =>
  refine gz_ ?_
  refine WE.drop (b := b) pk_ ?_
  exact end_1 rfl rfl (Env.le.rfl' _) ⟨rfl, rfl, false, rfl, fun h => by cases h⟩
 | false =>
 refine gz_ ?_
 refine WL.call rfl Tryz.call30 rfl rfl (by exact (zzFits3_ok k2)) ?_
 rintro _ _ _ - ⟨rfl, rfl, bl, rfl, hbl⟩
 refine gz_ ?_
 cases bl with
 | false =>
  refine gz_ ?_
  refine WE.drop (b := b) pk_ ?_
  exact end_1 rfl rfl (Env.le.rfl' _) ⟨rfl, rfl, false, rfl, fun h => by cases h⟩
 | true =>
 refine gz_ ?_
 cases h3 : decide ((2147483647 : Int) < (x.pars.length : Int)) with
 | true =>
  refine gz_ ?_
  refine WE.drop (b := b) pk_ ?_
  exact end_1 rfl rfl (Env.le.rfl' _) ⟨rfl, rfl, false, rfl, fun h => by cases h⟩
 | false =>
 refine gz_ ?_
 refine WL.call rfl Tryz.call31 rfl rfl (by exact (zzFits5_ok k4)) ?_
 rintro _ _ _ - ⟨rfl, rfl, bm, rfl, hbm⟩
 refine gz_ ?_
 cases bm with
 | false =>
  refine gz_ ?_
  refine WE.drop (b := b) pk_ ?_
  exact end_1 rfl rfl (Env.le.rfl' _) ⟨rfl, rfl, false, rfl, fun h => by cases h⟩
 | true =>
 refine gz_ ?_
 refine WE.drop (b := b) pk_ ?_
 have q1 := of_decide_eq_false h1
 have q2 := of_decide_eq_false h2
 have q3 := of_decide_eq_false h3
 exact end_1 rfl rfl (Env.le.rfl' _) ⟨rfl, rfl, true, rfl, fun _ => ⟨by omega, by omega, (hbl rfl).1, (hbl rfl).2, by omega, (hbm rfl).1, (hbm rfl).2⟩⟩
theorem zzFits1_ok {Γ : Env} {H : List Blk} {xs : List Df} {v : Value} (h : Arr Γ (DfC Γ) v xs) :
  Spc Tryz.prog 7 #[v] Γ H (fun v Γ' H' => Γ = Γ' ∧ H = H' ∧ ∃ b, v = .bool b ∧ (b = true → xs.length ≤ 2147483647 ∧ ∀ x ∈ xs, FitD x)) := by
 obtain ⟨a, cap, cells, rfl, hcap, hA, hL⟩ := h
 refine Spc.body1 Tryz.func7 rfl Tryz.ntmps7 rfl ?_
 refine gz_ ?_
 cases h1 : decide ((2147483647 : Int) < (xs.length : Int)) with
 | true =>
  refine gz_ ?_
  exact end_1 rfl rfl (Env.le.rfl' _) ⟨rfl, rfl, false, rfl, fun h => by cases h⟩
 | false =>
  have h1' := of_decide_eq_false h1
  refine gz_ ?_
  refine WC.loopE (fun m R' Γ' H' => ∃ i, R' = [(8, .slice a xs.length cap), (9, .int .i64 (xs.length : Int)), (10, .int .i64 ((i : Nat) : Int))] ∧ Γ = Γ' ∧ H' = H ∧ m = xs.length - i ∧ i ≤ xs.length ∧ ∀ y ∈ xs.take i, FitD y)
   ⟨0, rfl, rfl, rfl, rfl, Nat.zero_le _, fun y hy => by simp at hy⟩ sr_ (fun _ h => h) ?_
  rintro m R' Γ' H' ⟨i, rfl, rfl, rfl, rfl, hi, hf⟩
  rcases Nat.lt_or_ge i xs.length with hlt | hge
  case inr =>
   have ei : i = xs.length := by omega
   subst ei
   refine gz_ ?_
   refine WC.condF rfl (decide_eq_false (by omega)) ?_
   refine gz_ ?_
   rw [List.take_length] at hf
   exact end_1 rfl rfl (Env.le.rfl' _) ⟨rfl, rfl, true, rfl, fun _ => ⟨by omega, hf⟩⟩
  case inl =>
   obtain ⟨x, hx⟩ : ∃ x, xs[i]? = some x := ⟨_, List.getElem?_eq_getElem hlt⟩
   obtain ⟨bb, oo, c, rfl, hP, hc⟩ := elemA hA hL (fun _ _ h => h.len) (w := 11) (by decide) hx
   have hP' := hP
   obtain ⟨v1, v2, v3, v4, rfl, ⟨_, _, _, rfl, -, -, -⟩, ⟨_, _, _, rfl, -, -, -⟩, ⟨_, _, _, rfl, -, -, -⟩, ⟨_, _, _, rfl, -, -, -⟩⟩ := hP
   refine gz_ ?_
   refine WC.condT rfl tr_ ?_
   refine gz_ ?_
   (refine WL.alloc tab_ok rfl rfl ?_; intro b4)
   refine gz_ ?_
   refine WL.call rfl Tryz.call15 rfl rfl (by exact (zzFits2_ok hP')) ?_
   rintro _ _ _ - ⟨rfl, rfl, bl, rfl, hbl⟩
   refine gz_ ?_
   cases bl with
   | false =>
    refine gz_ ?_
    refine WE.drop (b := b4) pk_ ?_
    exact end_1 rfl rfl (Env.le.rfl' _) ⟨rfl, rfl, false, rfl, fun h => by cases h⟩
   | true =>
    refine gz_ ?_
    have hwi : IntKind.i64.wrap ((i : Int) + 1) = (i : Int) + 1 := w_i64 (by omega) (by omega)
    exact WE.again ⟨i + 1, rfl, rfl, rfl, rfl, hlt, mem_drop_of hx hf (hbl rfl)⟩ (by omega) ⟨rfl, rfl, congrArg (fun z => some (Value.int .i64 z)) hwi, trivial⟩ sm_
theorem member_ok {Γ : Env} {H : List Blk} {n : Int} {a : Option Addr} {m cap : Nat} :
  Spc Tryz.prog 33 #[.int .i64 n, .slice a m cap] Γ H (fun v Γ' H' => Γ = Γ' ∧ H = H' ∧ ∃ b, v = .bool b ∧ (b = true → -1 ≤ n ∧ n < m)) := by
 refine Spc.body2 Tryz.func33 rfl Tryz.ntmps33 rfl ?_
 refine gz_ ?_
 cases h1 : decide ((-1 : Int) ≤ n)
 ·refine gz_ ?_
  exact end_1 rfl rfl (Env.le.rfl' _) ⟨rfl, rfl, false, rfl, fun h => by cases h⟩
 refine gz_ ?_
 cases h2 : decide (n < (m : Int))
 ·refine gz_ ?_
  exact end_1 rfl rfl (Env.le.rfl' _) ⟨rfl, rfl, false, rfl, fun h => by cases h⟩
 refine gz_ ?_
 have k1 := of_decide_eq_true h1
 have k2 := of_decide_eq_true h2
 exact end_1 rfl rfl (Env.le.rfl' _) ⟨rfl, rfl, true, rfl, fun _ => ⟨k1, k2⟩⟩
def wM (m : Mem) : Nat := 32 + m.name.size
def wC (m : Con) : Nat := 32 + m.name.size
def wD (d : Df) : Nat := 32 + d.name.size + sumBy wM d.mems + sumBy wC d.cons
theorem areLight_ok {Γ : Env} {H : List Blk} {xs : List Df} {v : Value} (h : Arr Γ (DfC Γ) v xs) (hfl : xs.length ≤ 2147483647) (hf : ∀ u ∈ xs, FitD u) :
  Spc Tryz.prog 17 #[v] Γ H (fun v Γ' H' => Γ = Γ' ∧ H = H' ∧ ∃ b, v = .bool b ∧ (b = true → sumBy wD xs ≤ 1048576)) := by
 obtain ⟨a0, cap0, cells0, rfl, hcap0, hA0, hL0⟩ := h
 refine Spc.body1 Tryz.func17 rfl Tryz.ntmps17 rfl ?_
 refine gz_ ?_
 refine WC.loopE (fun m R' Γ' H' => ∃ i n, R' = [(3, .int .i64 ((n : Nat) : Int)), (10, .slice a0 xs.length cap0), (11, .int .i64 (xs.length : Int)), (12, .int .i64 ((i : Nat) : Int))] ∧ Γ = Γ' ∧ H = H' ∧ m = xs.length - i ∧ i ≤ xs.length ∧ n = sumBy wD (xs.take i) ∧ n ≤ 1048576)
  ⟨0, 0, rfl, rfl, rfl, rfl, Nat.zero_le _, rfl, by decide⟩ sr_ (fun _ h => h) ?_
 rintro m R' Γ' H' ⟨i, n, rfl, rfl, rfl, rfl, hi, hn, hnb⟩
 rcases Nat.lt_or_ge i xs.length with hlt | hge
 case inr =>
  have ei : i = xs.length := by omega
  subst ei
  refine gz_ ?_
  refine WC.condF rfl (decide_eq_false (by omega)) ?_
  refine gz_ ?_
  rw [List.take_length] at hn
  exact end_1 rfl rfl (Env.le.rfl' _) ⟨rfl, rfl, true, rfl, fun _ => by omega⟩
 obtain ⟨d, hd⟩ : ∃ u, xs[i]? = some u := ⟨_, List.getElem?_eq_getElem hlt⟩
 obtain ⟨bb, oo, c, rfl, hP, hc⟩ := elemA hA0 hL0 (fun _ _ h => h.len) (w := 11) (by decide) hd
 obtain ⟨w1, w2, w3, w4, rfl, ⟨ac, capc, cellsc, rfl, hcapc, hAc, hLc⟩, ⟨am, capm, cellsm, rfl, hcapm, hAm, hLm⟩, ⟨ap, capp, cellsp, rfl, hcapp, hAp, hLp⟩, ⟨ak, capk, cellsk, rfl, hcapk, hAk, hLk⟩⟩ := hP
 have hfd := hf d (List.mem_of_getElem? hd)
 have f1 := hfd.name
 have f2 := hfd.meml
 have f3 := hfd.conl
 have hsu := sumBy_take wD hd
 refine gz_ ?_
 refine WC.condT rfl tr_ ?_
 refine gz_ ?_
 (refine WL.alloc tab_ok rfl rfl ?_; intro b5)
 refine gz_ ?_
 rw [show IntKind.i64.wrap (IntKind.i64.wrap ((n : Int) + 32) + (d.name.size : Int)) = ((n + 32 + d.name.size : Nat) : Int) from by
  rw [w_i64 (x := (n : Int) + 32) (by omega) (by omega), w_i64 (by omega) (by omega)]; omega]
 generalize hn1 : n + 32 + d.name.size = n1
 have hnb1 : n1 ≤ 4294967296 := by omega
 refine WC.loopE (fun m R' Γ' H' => ∃ j n2, R' = [(3, .int .i64 ((n2 : Nat) : Int)), (5, .pointer (some ⟨b5, 0, none⟩)), (10, .slice (some ⟨bb, oo, none⟩) xs.length cap0), (11, .int .i64 (xs.length : Int)), (12, .int .i64 ((i : Nat) : Int)), (23, .slice am d.mems.length capm), (24, .int .i64 (d.mems.length : Int)), (25, .int .i64 ((j : Nat) : Int))] ∧ Γ = Γ' ∧ H' = (b5, cel [.int .i64 d.kind, .string d.name, .int .i64 d.which, .int .i64 d.size, .int .i64 d.of, .slice ac d.cnts.length capc, .bool d.upper, .bool d.inc, .slice am d.mems.length capm, .slice ap d.pars.length capp, .slice ak d.cons.length capk] 49) :: H ∧ m = d.mems.length - j ∧ j ≤ d.mems.length ∧ n2 = n1 + sumBy wM (d.mems.take j) ∧ n2 ≤ 4294967296)
  ⟨0, n1, rfl, rfl, rfl, rfl, Nat.zero_le _, rfl, by omega⟩ sr_ sm_ ?_
 rintro m R' Γ' H' ⟨j, n2, rfl, rfl, rfl, rfl, hjj, hnn2, hnbn2⟩
 rcases Nat.lt_or_ge j d.mems.length with hltj | hgej
 case inl =>
  obtain ⟨x, hx⟩ : ∃ x, d.mems[j]? = some x := ⟨_, List.getElem?_eq_getElem hltj⟩
  obtain ⟨bb1, oo1, c, rfl, hP, hc1⟩ := elemA hAm hLm (fun _ _ h => h.len) (w := 3) (by decide) hx
  cases hP
  have hfx : x.name.size ≤ 2147483647 := hfd.mem x (List.mem_of_getElem? hx)
  have hsx := sumBy_take wM hx
  refine gz_ ?_
  refine WC.condT rfl tr_ ?_
  refine gz_ ?_
  (refine WL.alloc tab_ok rfl rfl ?_; intro b7)
  refine gz_ ?_
  rw [show IntKind.i64.wrap (IntKind.i64.wrap ((n2 : Int) + 32) + (x.name.size : Int)) = ((n2 + wM x : Nat) : Int) from by
   rw [w_i64 (x := (n2 : Int) + 32) (by omega) (by omega), w_i64 (by omega) (by omega)]; unfold wM; omega]
  by_cases hb : 1048576 < n2 + wM x
  ·refine WC.condT rfl (decide_eq_true (by omega)) ?_
   refine gz_ ?_
   refine WE.drop (b := b7) pk_ ?_
   refine WE.drop (b := b5) pk_ ?_
   exact end_1 rfl rfl (Env.le.rfl' _) ⟨rfl, rfl, false, rfl, fun h => by cases h⟩
  ·refine WC.condF rfl (decide_eq_false (by omega)) ?_
   refine gz_ ?_
   have hwi : IntKind.i64.wrap ((j : Int) + 1) = (j : Int) + 1 := w_i64 (by omega) (by omega)
   exact WE.again ⟨j + 1, n2 + wM x, rfl, rfl, rfl, rfl, hltj, by rw [hsx, hnn2]; omega, by omega⟩ (by omega) ⟨rfl, rfl, rfl, rfl, rfl, rfl, rfl, congrArg (fun z => some (Value.int .i64 z)) hwi, trivial⟩ sm_
 have ej : j = d.mems.length := by omega
 subst ej
 refine gz_ ?_
 refine WC.condF rfl (decide_eq_false (by omega)) ?_
 rw [List.take_length] at hnn2
 refine gz_ ?_
 refine WC.loopE (fun m R' Γ' H' => ∃ k n3, R' = [(3, .int .i64 ((n3 : Nat) : Int)), (5, .pointer (some ⟨b5, 0, none⟩)), (10, .slice (some ⟨bb, oo, none⟩) xs.length cap0), (11, .int .i64 (xs.length : Int)), (12, .int .i64 ((i : Nat) : Int)), (39, .slice ak d.cons.length capk), (40, .int .i64 (d.cons.length : Int)), (41, .int .i64 ((k : Nat) : Int))] ∧ Γ = Γ' ∧ H' = (b5, cel [.int .i64 d.kind, .string d.name, .int .i64 d.which, .int .i64 d.size, .int .i64 d.of, .slice ac d.cnts.length capc, .bool d.upper, .bool d.inc, .slice am d.mems.length capm, .slice ap d.pars.length capp, .slice ak d.cons.length capk] 49) :: H ∧ m = d.cons.length - k ∧ k ≤ d.cons.length ∧ n3 = n2 + sumBy wC (d.cons.take k) ∧ n3 ≤ 4294967296)
  ⟨0, n2, rfl, rfl, rfl, rfl, Nat.zero_le _, rfl, by omega⟩ sr_ sm_ ?_
 rintro m R' Γ' H' ⟨k, n3, rfl, rfl, rfl, rfl, hjk, hnn3, hnbn3⟩
 rcases Nat.lt_or_ge k d.cons.length with hltk | hgek
 case inl =>
  obtain ⟨x, hx⟩ : ∃ x, d.cons[k]? = some x := ⟨_, List.getElem?_eq_getElem hltk⟩
  obtain ⟨bb1, oo1, c, rfl, hP, hc1⟩ := elemA hAk hLk (fun _ _ h => h.len) (w := 2) (by decide) hx
  cases hP
  have hfx : x.name.size ≤ 2147483647 := hfd.con x (List.mem_of_getElem? hx)
  have hsx := sumBy_take wC hx
  refine gz_ ?_
  refine WC.condT rfl tr_ ?_
  refine gz_ ?_
  (refine WL.alloc tab_ok rfl rfl ?_; intro b7)
  refine gz_ ?_
  rw [show IntKind.i64.wrap (IntKind.i64.wrap ((n3 : Int) + 32) + (x.name.size : Int)) = ((n3 + wC x : Nat) : Int) from by
   rw [w_i64 (x := (n3 : Int) + 32) (by omega) (by omega), w_i64 (by omega) (by omega)]; unfold wC; omega]
  by_cases hb : 1048576 < n3 + wC x
  ·refine WC.condT rfl (decide_eq_true (by omega)) ?_
   refine gz_ ?_
   refine WE.drop (b := b7) pk_ ?_
   refine WE.drop (b := b5) pk_ ?_
   exact end_1 rfl rfl (Env.le.rfl' _) ⟨rfl, rfl, false, rfl, fun h => by cases h⟩
  ·refine WC.condF rfl (decide_eq_false (by omega)) ?_
   refine gz_ ?_
   have hwi : IntKind.i64.wrap ((k : Int) + 1) = (k : Int) + 1 := w_i64 (by omega) (by omega)
   exact WE.again ⟨k + 1, n3 + wC x, rfl, rfl, rfl, rfl, hltk, by rw [hsx, hnn3]; omega, by omega⟩ (by omega) ⟨rfl, rfl, rfl, rfl, rfl, rfl, rfl, congrArg (fun z => some (Value.int .i64 z)) hwi, trivial⟩ sm_
 have ek : k = d.cons.length := by omega
 subst ek
 refine gz_ ?_
 refine WC.condF rfl (decide_eq_false (by omega)) ?_
 rw [List.take_length] at hnn3
 refine gz_ ?_
 by_cases hb : 1048576 < n3
 ·refine WC.condT rfl (decide_eq_true (by omega)) ?_
  refine gz_ ?_
  refine WE.drop (b := b5) pk_ ?_
  exact end_1 rfl rfl (Env.le.rfl' _) ⟨rfl, rfl, false, rfl, fun h => by cases h⟩
 refine WC.condF rfl (decide_eq_false (by omega)) ?_
 refine gz_ ?_
 have hwi : IntKind.i64.wrap ((i : Int) + 1) = (i : Int) + 1 := w_i64 (by omega) (by omega)
 exact WE.again ⟨i + 1, n3, rfl, rfl, rfl, rfl, hlt, by rw [hsu, show wD d = 32 + d.name.size + sumBy wM d.mems + sumBy wC d.cons from rfl]; omega, by omega⟩ (by omega) ⟨rfl, rfl, rfl, congrArg (fun z => some (Value.int .i64 z)) hwi, trivial⟩ sm_
def lastO (l : List Mem) : Nat → Int
 | 0 => -1
 | k + 1 => match l[k]? with
  | some m => m.off
  | none => -1
structure OkMem (n : Nat) (d : Df) (m : Mem) (last : Int) : Prop where
 txt : NoZero m.name
 n1 : m.name.size ≤ 1024
 of0 : 0 ≤ m.of
 of1 : m.of < n
 o0 : 0 ≤ m.off
 o1 : m.off ≤ 1048576
 st : d.which ≠ 1 → last < m.off ∧ m.off < d.size
structure OkCon (m : Con) : Prop where
 txt : NoZero m.name
 n1 : m.name.size ≤ 1024
 v0 : -1099511627776 ≤ m.val
 v1 : m.val ≤ 1099511627776
structure OkCnt (d : Df) (k : Nat) (z : Int) : Prop where
 c0 : -1 ≤ z
 c1 : z ≤ 1024
 neg : z < 0 → k = 0
 up : z = 0 → d.upper = false
abbrev sComplex : ByteArray := ⟨#[99, 111, 109, 112, 108, 101, 120]⟩
structure OkD0 (n i : Nat) (d : Df) : Prop where
 txt : NoZero d.name
 n1 : d.name.size ≤ 1024
 s0 : 0 ≤ d.size
 s1 : d.size ≤ 1048576
 of0 : -1 ≤ d.of
 of1 : d.of < n
 meml : d.mems.length ≤ 50
 parl : d.pars.length ≤ 50
 conl : d.cons.length ≤ 50
 cntl : d.cnts.length ≤ 4
structure OkD1 (i : Nat) (d : Df) : Prop where
 ahead : d.kind = 12 ∨ d.kind = 11 ∨ d.kind = 13 → d.of < i
 arr : d.kind = 11 → 0 ≤ d.of
structure OkD2 (d : Df) : Prop where
 w0 : 0 ≤ d.which
 w2 : d.which ≤ 2
 cpx : d.kind = 3 → d.name ≠ sComplex
structure OkDf (n i : Nat) (d : Df) : Prop where
 d0 : OkD0 n i d
 d1 : OkD1 i d
 d2 : OkD2 d
 arrn : d.kind = 11 → 0 < d.cnts.length
 cnt : ∀ k z, d.cnts[k]? = some z → OkCnt d k z
 mem : ∀ k m, d.mems[k]? = some m → OkMem n d m (lastO d.mems k)
 par : ∀ p ∈ d.pars, p = -3 ∨ (0 ≤ p ∧ p < n)
 con : ∀ c ∈ d.cons, OkCon c
 k1 : 1 ≤ d.kind
 k16 : d.kind ≤ 16
 inc : d.inc = true → d.kind = 10 ∧ d.mems.length = 0
theorem below_succ {α : Type} {p : Nat → α → Prop} {l : List α} {i : Nat} {x : α} (hx : l[i]? = some x) (h : ∀ k y, k < i → l[k]? = some y → p k y) (h0 : p i x) : ∀ k y, k < i + 1 → l[k]? = some y → p k y := by
 intro k y hk hy
 rcases Nat.lt_or_ge k i with hlt | hge
 ·exact h k y hlt hy
 ·have e : k = i := by omega
  subst e
  rw [hx] at hy; injection hy with hy; subst hy; exact h0
theorem isDef_ok {Γ : Env} {H : List Blk} {l : Lay} {xs : List Df} {v : Value} {i : Nat} {d : Df} (h : Arr Γ (DfC Γ) v xs) (hfl : xs.length ≤ 2147483647) (hf : ∀ u ∈ xs, FitD u) (hd : xs[i]? = some d) :
  Spc Tryz.prog 18 #[layV l, v, .int .i64 (i : Int)] Γ H (fun v Γ' H' => Γ = Γ' ∧ H = H' ∧ ∃ b, v = .bool b ∧ (b = true → OkDf xs.length i d)) := by
 obtain ⟨a0, cap0, cells0, rfl, hcap0, hA0, hL0⟩ := h
 have hlt := (List.getElem?_eq_some_iff.1 hd).1
 obtain ⟨bb, oo, c, rfl, hP, hc⟩ := elemA hA0 hL0 (fun _ _ h => h.len) (w := 11) (by decide) hd
 obtain ⟨w1, w2, w3, w4, rfl, ⟨ac, capc, cellsc, rfl, hcapc, hAc, hLc⟩, ⟨am, capm, cellsm, rfl, hcapm, hAm, hLm⟩, ⟨ap, capp, cellsp, rfl, hcapp, hAp, hLp⟩, ⟨ak, capk, cellsk, rfl, hcapk, hAk, hLk⟩⟩ := hP
 have hfd := hf d (List.mem_of_getElem? hd)
 have f0 := hfd.name
 have f1 := hfd.cnts
 have f2 := hfd.meml
 have f3 := hfd.conl
 have f4 := hfd.pars
 refine Spc.body3 Tryz.func18 rfl Tryz.ntmps18 rfl ?_
 refine WC.seq ?_
 refine WC.region ?_
 (refine WL.box rfl spi_ rfl ?_; intro b3)
 refine gs_ ?_
 refine WE.then_ ?_
 refine WC.seq ?_
 refine WC.region ?_
 refine gz_ ?_
 (refine WL.alloc tab_ok rfl rfl ?_; intro b7)
 refine gs_ ?_
 refine WE.then_ ?_
 refine WC.seq ?_
 refine WC.cutM (fun R' Γ' H' => R' = [(1, .slice (some ⟨bb, oo, none⟩) xs.length cap0), (2, .int .i64 (i : Int)), (7, .pointer (some ⟨b7, 0, none⟩))] ∧ Γ = Γ' ∧ H' = (b7, cel [.int .i64 d.kind, .string d.name, .int .i64 d.which, .int .i64 d.size, .int .i64 d.of, .slice ac d.cnts.length capc, .bool d.upper, .bool d.inc, .slice am d.mems.length capm, .slice ap d.pars.length capp, .slice ak d.cons.length capk] 49) :: (b3, cel [.int .i64 l.vers, .bool l.wide, .int .i64 l.size, .bool l.big, .bool l.far] 23) :: H ∧ OkD0 xs.length i d) ?_ ?_
 ·refine gz_ ?_
  refine WL.call rfl Tryz.call32 rfl rfl (by exact (isText_ok f0)) ?_
  rintro _ _ _ - ⟨rfl, rfl, bl, rfl, hbl⟩
  refine gz_ ?_
  cases bl
  case false =>
   refine gz_ ?_
   refine WE.drop (b := b3) pk_ ?_
   refine WE.drop (b := b7) pk_ ?_
   exact end_1 rfl rfl (Env.le.rfl' _) ⟨rfl, rfl, false, rfl, fun h => by cases h⟩
  refine gz_ ?_
  cases h1 : decide ((1024 : Int) < (d.name.size : Int))
  case true =>
   refine gz_ ?_
   refine WE.drop (b := b3) pk_ ?_
   refine WE.drop (b := b7) pk_ ?_
   exact end_1 rfl rfl (Env.le.rfl' _) ⟨rfl, rfl, false, rfl, fun h => by cases h⟩
  refine gz_ ?_
  cases h2 : decide (d.size < 0)
  case true =>
   refine gz_ ?_
   refine WE.drop (b := b3) pk_ ?_
   refine WE.drop (b := b7) pk_ ?_
   exact end_1 rfl rfl (Env.le.rfl' _) ⟨rfl, rfl, false, rfl, fun h => by cases h⟩
  refine gz_ ?_
  cases h3 : decide ((1048576 : Int) < d.size)
  case true =>
   refine gz_ ?_
   refine WE.drop (b := b3) pk_ ?_
   refine WE.drop (b := b7) pk_ ?_
   exact end_1 rfl rfl (Env.le.rfl' _) ⟨rfl, rfl, false, rfl, fun h => by cases h⟩
  refine gz_ ?_
  refine WL.call rfl Tryz.call33 rfl rfl (by exact member_ok) ?_
  rintro _ _ _ - ⟨rfl, rfl, bl, rfl, hmb⟩
  refine gz_ ?_
  cases bl
  case false =>
   refine gz_ ?_
   refine WE.drop (b := b3) pk_ ?_
   refine WE.drop (b := b7) pk_ ?_
   exact end_1 rfl rfl (Env.le.rfl' _) ⟨rfl, rfl, false, rfl, fun h => by cases h⟩
  refine gz_ ?_
  cases h4 : decide ((50 : Int) < (d.mems.length : Int))
  case true =>
   refine gz_ ?_
   refine WE.drop (b := b3) pk_ ?_
   refine WE.drop (b := b7) pk_ ?_
   exact end_1 rfl rfl (Env.le.rfl' _) ⟨rfl, rfl, false, rfl, fun h => by cases h⟩
  refine gz_ ?_
  cases h5 : decide ((50 : Int) < (d.pars.length : Int))
  case true =>
   refine gz_ ?_
   refine WE.drop (b := b3) pk_ ?_
   refine WE.drop (b := b7) pk_ ?_
   exact end_1 rfl rfl (Env.le.rfl' _) ⟨rfl, rfl, false, rfl, fun h => by cases h⟩
  refine gz_ ?_
  cases h6 : decide ((50 : Int) < (d.cons.length : Int))
  case true =>
   refine gz_ ?_
   refine WE.drop (b := b3) pk_ ?_
   refine WE.drop (b := b7) pk_ ?_
   exact end_1 rfl rfl (Env.le.rfl' _) ⟨rfl, rfl, false, rfl, fun h => by cases h⟩
  refine gz_ ?_
  cases h7 : decide ((4 : Int) < (d.cnts.length : Int))
  case true =>
   refine gz_ ?_
   refine WE.drop (b := b3) pk_ ?_
   refine WE.drop (b := b7) pk_ ?_
   exact end_1 rfl rfl (Env.le.rfl' _) ⟨rfl, rfl, false, rfl, fun h => by cases h⟩
  refine gz_ ?_
  have k1 := of_decide_eq_false h1
  have k2 := of_decide_eq_false h2
  have k3 := of_decide_eq_false h3
  have k4 := of_decide_eq_false h4
  have k5 := of_decide_eq_false h5
  have k6 := of_decide_eq_false h6
  have k7 := of_decide_eq_false h7
  have hm1 := hmb rfl
  exact WE.mid ⟨rfl, rfl, rfl, hbl rfl, by omega, by omega, by omega, hm1.1, hm1.2, by omega, by omega, by omega, by omega⟩ sr_ sm_
 rintro R' Γ' H' ⟨rfl, rfl, rfl, hd0⟩
 refine WE.then_ ?_
 refine WC.seq ?_
 refine WC.cutM (fun R' Γ' H' => R' = [(1, .slice (some ⟨bb, oo, none⟩) xs.length cap0), (2, .int .i64 (i : Int)), (7, .pointer (some ⟨b7, 0, none⟩))] ∧ Γ = Γ' ∧ H' = (b7, cel [.int .i64 d.kind, .string d.name, .int .i64 d.which, .int .i64 d.size, .int .i64 d.of, .slice ac d.cnts.length capc, .bool d.upper, .bool d.inc, .slice am d.mems.length capm, .slice ap d.pars.length capp, .slice ak d.cons.length capk] 49) :: (b3, cel [.int .i64 l.vers, .bool l.wide, .int .i64 l.size, .bool l.big, .bool l.far] 23) :: H ∧ OkD1 i d) ?_ ?_
 ·refine gz_ ?_
  cases q12 : (d.kind == 12)
  case true =>
   have e := eq_of_beq q12
   refine gz_ ?_
   cases h1 : decide ((i : Int) ≤ d.of)
   case true =>
    refine gz_ ?_
    refine WE.drop (b := b3) pk_ ?_
    refine WE.drop (b := b7) pk_ ?_
    exact end_1 rfl rfl (Env.le.rfl' _) ⟨rfl, rfl, false, rfl, fun h => by cases h⟩
   have k1 := of_decide_eq_false h1
   refine gz_ ?_
   rw [show (d.kind == 11) = false from beq_eq_false_iff_ne.2 (by omega)]
   refine gz_ ?_
   exact WE.mid ⟨rfl, rfl, rfl, fun _ => by omega, fun h => by omega⟩ sr_ sm_
  have n12 := ne_of_beq_false q12
  refine gz_ ?_
  cases q11 : (d.kind == 11)
  case true =>
   have e := eq_of_beq q11
   refine gz_ ?_
   cases h1 : decide ((i : Int) ≤ d.of)
   case true =>
    refine gz_ ?_
    refine WE.drop (b := b3) pk_ ?_
    refine WE.drop (b := b7) pk_ ?_
    exact end_1 rfl rfl (Env.le.rfl' _) ⟨rfl, rfl, false, rfl, fun h => by cases h⟩
   have k1 := of_decide_eq_false h1
   refine gz_ ?_
   rw [show (d.kind == 11) = true from q11]
   refine gz_ ?_
   cases h2 : decide (d.of < 0)
   case true =>
    refine gz_ ?_
    refine WE.drop (b := b3) pk_ ?_
    refine WE.drop (b := b7) pk_ ?_
    exact end_1 rfl rfl (Env.le.rfl' _) ⟨rfl, rfl, false, rfl, fun h => by cases h⟩
   have k2 := of_decide_eq_false h2
   refine gz_ ?_
   exact WE.mid ⟨rfl, rfl, rfl, fun _ => by omega, fun h => by omega⟩ sr_ sm_
  have n11 := ne_of_beq_false q11
  refine gz_ ?_
  cases q13 : (d.kind == 13)
  case true =>
   have e := eq_of_beq q13
   refine gz_ ?_
   cases h1 : decide ((i : Int) ≤ d.of)
   case true =>
    refine gz_ ?_
    refine WE.drop (b := b3) pk_ ?_
    refine WE.drop (b := b7) pk_ ?_
    exact end_1 rfl rfl (Env.le.rfl' _) ⟨rfl, rfl, false, rfl, fun h => by cases h⟩
   have k1 := of_decide_eq_false h1
   refine gz_ ?_
   rw [show (d.kind == 11) = false from q11]
   refine gz_ ?_
   exact WE.mid ⟨rfl, rfl, rfl, fun _ => by omega, fun h => by omega⟩ sr_ sm_
  have n13 := ne_of_beq_false q13
  refine gz_ ?_
  exact WE.mid ⟨rfl, rfl, rfl, fun h => by omega, fun h => by omega⟩ sr_ sm_
 rintro R' Γ' H' ⟨rfl, rfl, rfl, hd1⟩
 refine WE.then_ ?_
 refine WC.seq ?_
 refine WC.cutM (fun R' Γ' H' => R' = [(1, .slice (some ⟨bb, oo, none⟩) xs.length cap0), (2, .int .i64 (i : Int)), (7, .pointer (some ⟨b7, 0, none⟩))] ∧ Γ = Γ' ∧ H' = (b7, cel [.int .i64 d.kind, .string d.name, .int .i64 d.which, .int .i64 d.size, .int .i64 d.of, .slice ac d.cnts.length capc, .bool d.upper, .bool d.inc, .slice am d.mems.length capm, .slice ap d.pars.length capp, .slice ak d.cons.length capk] 49) :: (b3, cel [.int .i64 l.vers, .bool l.wide, .int .i64 l.size, .bool l.big, .bool l.far] 23) :: H ∧ OkD2 d) ?_ ?_
 ·refine gz_ ?_
  cases h1 : decide (d.which < 0)
  case true =>
   refine gz_ ?_
   refine WE.drop (b := b3) pk_ ?_
   refine WE.drop (b := b7) pk_ ?_
   exact end_1 rfl rfl (Env.le.rfl' _) ⟨rfl, rfl, false, rfl, fun h => by cases h⟩
  refine gz_ ?_
  cases h2 : decide ((2 : Int) < d.which)
  case true =>
   refine gz_ ?_
   refine WE.drop (b := b3) pk_ ?_
   refine WE.drop (b := b7) pk_ ?_
   exact end_1 rfl rfl (Env.le.rfl' _) ⟨rfl, rfl, false, rfl, fun h => by cases h⟩
  refine gz_ ?_
  have k1 := of_decide_eq_false h1
  have k2 := of_decide_eq_false h2
  cases q3 : (d.kind == 3)
  case false =>
   have n3 := ne_of_beq_false q3
   refine gz_ ?_
   exact WE.mid ⟨rfl, rfl, rfl, by omega, by omega, fun h => absurd h n3⟩ sr_ sm_
  refine gz_ ?_
  cases qn : (d.name.toList == (⟨#[99, 111, 109, 112, 108, 101, 120]⟩ : ByteArray).toList)
  case true =>
   refine gz_ ?_
   refine WE.drop (b := b3) pk_ ?_
   refine WE.drop (b := b7) pk_ ?_
   exact end_1 rfl rfl (Env.le.rfl' _) ⟨rfl, rfl, false, rfl, fun h => by cases h⟩
  refine gz_ ?_
  exact WE.mid ⟨rfl, rfl, rfl, by omega, by omega, fun _ h => by rw [h] at qn; simp at qn⟩ sr_ sm_
 rintro R' Γ' H' ⟨rfl, rfl, rfl, hd2⟩
 refine WE.then_ ?_
 refine WC.seq ?_
 refine WC.cutM (fun R' Γ' H' => R' = [(1, .slice (some ⟨bb, oo, none⟩) xs.length cap0), (2, .int .i64 (i : Int)), (7, .pointer (some ⟨b7, 0, none⟩))] ∧ Γ = Γ' ∧ H' = (b7, cel [.int .i64 d.kind, .string d.name, .int .i64 d.which, .int .i64 d.size, .int .i64 d.of, .slice ac d.cnts.length capc, .bool d.upper, .bool d.inc, .slice am d.mems.length capm, .slice ap d.pars.length capp, .slice ak d.cons.length capk] 49) :: (b3, cel [.int .i64 l.vers, .bool l.wide, .int .i64 l.size, .bool l.big, .bool l.far] 23) :: H ∧ (d.kind = 11 → 0 < d.cnts.length)) ?_ ?_
 ·refine gz_ ?_
  cases q3 : (d.kind == 11)
  case false =>
   have n3 := ne_of_beq_false q3
   refine gz_ ?_
   exact WE.mid ⟨rfl, rfl, rfl, fun h => absurd h n3⟩ sr_ sm_
  refine gz_ ?_
  cases qn : ((d.cnts.length : Int) == 0)
  case true =>
   refine gz_ ?_
   refine WE.drop (b := b3) pk_ ?_
   refine WE.drop (b := b7) pk_ ?_
   exact end_1 rfl rfl (Env.le.rfl' _) ⟨rfl, rfl, false, rfl, fun h => by cases h⟩
  have k1 := ne_of_beq_false qn
  refine gz_ ?_
  exact WE.mid ⟨rfl, rfl, rfl, fun _ => by omega⟩ sr_ sm_
 rintro R' Γ' H' ⟨rfl, rfl, rfl, harr⟩
 have g1 := hd0.meml
 have g2 := hd0.parl
 have g3 := hd0.conl
 have g4 := hd0.cntl
 refine gz_ ?_
 refine WC.loopE (fun m R' Γ' H' => ∃ k : Nat, R' = [(1, .slice (some ⟨bb, oo, none⟩) xs.length cap0), (2, .int .i64 (i : Int)), (7, .pointer (some ⟨b7, 0, none⟩)), (120, .slice ac d.cnts.length capc), (121, .int .i64 (d.cnts.length : Int)), (122, .int .i64 ((k : Nat) : Int))] ∧ Γ = Γ' ∧ H' = (b7, cel [.int .i64 d.kind, .string d.name, .int .i64 d.which, .int .i64 d.size, .int .i64 d.of, .slice ac d.cnts.length capc, .bool d.upper, .bool d.inc, .slice am d.mems.length capm, .slice ap d.pars.length capp, .slice ak d.cons.length capk] 49) :: (b3, cel [.int .i64 l.vers, .bool l.wide, .int .i64 l.size, .bool l.big, .bool l.far] 23) :: H ∧ m = d.cnts.length - k ∧ k ≤ d.cnts.length ∧ ∀ (q : Nat) y, q < k → d.cnts[q]? = some y → OkCnt d q y)
  ⟨0, rfl, rfl, rfl, rfl, Nat.zero_le _, fun _ _ h => absurd h (Nat.not_lt_zero _)⟩ sr_ sm_ ?_
 rintro m R' Γ' H' ⟨k, rfl, rfl, rfl, rfl, hkk, hallk⟩
 rcases Nat.lt_or_ge k d.cnts.length with hltk | hgek
 case inl =>
  obtain ⟨x, hx⟩ : ∃ x, d.cnts[k]? = some x := ⟨_, List.getElem?_eq_getElem hltk⟩
  obtain ⟨bb1, oo1, c, rfl, hP, hc1⟩ := elemA hAc hLc (fun _ _ h => h.len) (w := 1) (by decide) hx
  cases hP
  have hwi : IntKind.i64.wrap ((k : Int) + 1) = (k : Int) + 1 := w_i64 (by omega) (by omega)
  obtain ⟨hc0, -⟩ := hc1
  refine gz_ ?_
  refine WC.condT rfl tr_ ?_
  refine gz_ ?_
  cases h1 : decide (x < -1)
  case true =>
   refine gz_ ?_
   refine WE.drop (b := b3) pk_ ?_
   refine WE.drop (b := b7) pk_ ?_
   exact end_1 rfl rfl (Env.le.rfl' _) ⟨rfl, rfl, false, rfl, fun h => by cases h⟩
  refine gz_ ?_
  cases h2 : decide ((1024 : Int) < x)
  case true =>
   refine gz_ ?_
   refine WE.drop (b := b3) pk_ ?_
   refine WE.drop (b := b7) pk_ ?_
   exact end_1 rfl rfl (Env.le.rfl' _) ⟨rfl, rfl, false, rfl, fun h => by cases h⟩
  refine gz_ ?_
  have k1 := of_decide_eq_false h1
  have k2 := of_decide_eq_false h2
  cases h3 : decide (x < 0)
  case true =>
   have k3 := of_decide_eq_true h3
   refine gz_ ?_
   cases h4 : decide ((0 : Int) < (k : Int))
   case true =>
    refine gz_ ?_
    refine WE.drop (b := b3) pk_ ?_
    refine WE.drop (b := b7) pk_ ?_
    exact end_1 rfl rfl (Env.le.rfl' _) ⟨rfl, rfl, false, rfl, fun h => by cases h⟩
   have k4 := of_decide_eq_false h4
   refine gz_ ?_
   rw [show (x == 0) = false from beq_eq_false_iff_ne.2 (by omega)]
   refine gz_ ?_
   exact WE.again ⟨k + 1, rfl, rfl, rfl, rfl, hltk, below_succ hx hallk ⟨by omega, by omega, fun _ => by omega, fun h => by omega⟩⟩ (by omega) ⟨rfl, rfl, rfl, rfl, rfl, congrArg (fun z => some (Value.int .i64 z)) hwi, trivial⟩ sm_
  have k3 := of_decide_eq_false h3
  refine gz_ ?_
  cases h4 : (x == 0)
  case true =>
   refine gz_ ?_
   cases hu : d.upper
   case true =>
    refine gz_ ?_
    refine WE.drop (b := b3) pk_ ?_
    refine WE.drop (b := b7) pk_ ?_
    exact end_1 rfl rfl (Env.le.rfl' _) ⟨rfl, rfl, false, rfl, fun h => by cases h⟩
   refine gz_ ?_
   exact WE.again ⟨k + 1, rfl, rfl, rfl, rfl, hltk, below_succ hx hallk ⟨by omega, by omega, fun h => by omega, fun _ => hu⟩⟩ (by omega) ⟨rfl, rfl, rfl, rfl, rfl, congrArg (fun z => some (Value.int .i64 z)) hwi, trivial⟩ sm_
  have k4 := ne_of_beq_false h4
  refine gz_ ?_
  exact WE.again ⟨k + 1, rfl, rfl, rfl, rfl, hltk, below_succ hx hallk ⟨by omega, by omega, fun h => by omega, fun h => absurd h k4⟩⟩ (by omega) ⟨rfl, rfl, rfl, rfl, rfl, congrArg (fun z => some (Value.int .i64 z)) hwi, trivial⟩ sm_
 have ek : k = d.cnts.length := by omega
 subst ek
 refine gz_ ?_
 refine WC.condF rfl (decide_eq_false (by omega)) ?_
 refine gz_ ?_
 refine WC.loopE (fun m R' Γ' H' => ∃ k2' : Nat, R' = [(1, .slice (some ⟨bb, oo, none⟩) xs.length cap0), (2, .int .i64 (i : Int)), (7, .pointer (some ⟨b7, 0, none⟩)), (10, .int .i64 (lastO d.mems k2')), (151, .slice am d.mems.length capm), (152, .int .i64 (d.mems.length : Int)), (153, .int .i64 ((k2' : Nat) : Int))] ∧ Γ = Γ' ∧ H' = (b7, cel [.int .i64 d.kind, .string d.name, .int .i64 d.which, .int .i64 d.size, .int .i64 d.of, .slice ac d.cnts.length capc, .bool d.upper, .bool d.inc, .slice am d.mems.length capm, .slice ap d.pars.length capp, .slice ak d.cons.length capk] 49) :: (b3, cel [.int .i64 l.vers, .bool l.wide, .int .i64 l.size, .bool l.big, .bool l.far] 23) :: H ∧ m = d.mems.length - k2' ∧ k2' ≤ d.mems.length ∧ ∀ (q : Nat) y, q < k2' → d.mems[q]? = some y → OkMem xs.length d y (lastO d.mems q))
  ⟨0, rfl, rfl, rfl, rfl, Nat.zero_le _, fun _ _ h => absurd h (Nat.not_lt_zero _)⟩ sr_ sm_ ?_
 rintro m R' Γ' H' ⟨k2', rfl, rfl, rfl, rfl, hkk2', hallk2'⟩
 rcases Nat.lt_or_ge k2' d.mems.length with hltk2' | hgek2'
 case inl =>
  obtain ⟨x, hx⟩ : ∃ x, d.mems[k2']? = some x := ⟨_, List.getElem?_eq_getElem hltk2'⟩
  obtain ⟨bb1, oo1, c, rfl, hP, hc1⟩ := elemA hAm hLm (fun _ _ h => h.len) (w := 3) (by decide) hx
  cases hP
  have hwi : IntKind.i64.wrap ((k2' : Int) + 1) = (k2' : Int) + 1 := w_i64 (by omega) (by omega)
  have hfx : x.name.size ≤ 2147483647 := hfd.mem x (List.mem_of_getElem? hx)
  refine gz_ ?_
  refine WC.condT rfl tr_ ?_
  refine gz_ ?_
  (refine WL.alloc tab_ok rfl rfl ?_; intro b12)
  refine gz_ ?_
  refine WL.call rfl Tryz.call32 rfl rfl (by exact (isText_ok hfx)) ?_
  rintro _ _ _ - ⟨rfl, rfl, bl, rfl, hbl⟩
  refine gz_ ?_
  cases bl
  case false =>
   refine gz_ ?_
   refine WE.drop (b := b3) pk_ ?_
   refine WE.drop (b := b7) pk_ ?_
   refine WE.drop (b := b12) pk_ ?_
   exact end_1 rfl rfl (Env.le.rfl' _) ⟨rfl, rfl, false, rfl, fun h => by cases h⟩
  refine gz_ ?_
  cases h1 : decide ((1024 : Int) < (x.name.size : Int))
  case true =>
   refine gz_ ?_
   refine WE.drop (b := b3) pk_ ?_
   refine WE.drop (b := b7) pk_ ?_
   refine WE.drop (b := b12) pk_ ?_
   exact end_1 rfl rfl (Env.le.rfl' _) ⟨rfl, rfl, false, rfl, fun h => by cases h⟩
  refine gz_ ?_
  refine WL.call rfl Tryz.call33 rfl rfl (by exact member_ok) ?_
  rintro _ _ _ - ⟨rfl, rfl, bl, rfl, hmb⟩
  refine gz_ ?_
  cases bl
  case false =>
   refine gz_ ?_
   refine WE.drop (b := b3) pk_ ?_
   refine WE.drop (b := b7) pk_ ?_
   refine WE.drop (b := b12) pk_ ?_
   exact end_1 rfl rfl (Env.le.rfl' _) ⟨rfl, rfl, false, rfl, fun h => by cases h⟩
  refine gz_ ?_
  cases h2 : decide (x.of < 0)
  case true =>
   refine gz_ ?_
   refine WE.drop (b := b3) pk_ ?_
   refine WE.drop (b := b7) pk_ ?_
   refine WE.drop (b := b12) pk_ ?_
   exact end_1 rfl rfl (Env.le.rfl' _) ⟨rfl, rfl, false, rfl, fun h => by cases h⟩
  refine gz_ ?_
  cases h3 : decide (x.off < 0)
  case true =>
   refine gz_ ?_
   refine WE.drop (b := b3) pk_ ?_
   refine WE.drop (b := b7) pk_ ?_
   refine WE.drop (b := b12) pk_ ?_
   exact end_1 rfl rfl (Env.le.rfl' _) ⟨rfl, rfl, false, rfl, fun h => by cases h⟩
  refine gz_ ?_
  cases h4 : decide ((1048576 : Int) < x.off)
  case true =>
   refine gz_ ?_
   refine WE.drop (b := b3) pk_ ?_
   refine WE.drop (b := b7) pk_ ?_
   refine WE.drop (b := b12) pk_ ?_
   exact end_1 rfl rfl (Env.le.rfl' _) ⟨rfl, rfl, false, rfl, fun h => by cases h⟩
  refine gz_ ?_
  have k1 := of_decide_eq_false h1
  have k2 := of_decide_eq_false h2
  have k3 := of_decide_eq_false h3
  have k4 := of_decide_eq_false h4
  have hm1 := hmb rfl
  have hln : lastO d.mems (k2' + 1) = x.off := by simp only [lastO, hx]
  cases h5 : (d.which != 1)
  case false =>
   have k5 : d.which = 1 := by simpa using h5
   refine gz_ ?_
   exact WE.again ⟨k2' + 1, rfl, rfl, rfl, rfl, hltk2', below_succ hx hallk2' ⟨hbl rfl, by omega, by omega, hm1.2, by omega, by omega, fun h => absurd k5 h⟩⟩ (by omega) ⟨rfl, rfl, rfl, congrArg (fun z => some (Value.int .i64 z)) hln.symm, rfl, rfl, congrArg (fun z => some (Value.int .i64 z)) hwi, trivial⟩ sm_
  refine gz_ ?_
  cases h6 : decide (x.off ≤ lastO d.mems k2')
  case true =>
   refine gz_ ?_
   refine WE.drop (b := b3) pk_ ?_
   refine WE.drop (b := b7) pk_ ?_
   refine WE.drop (b := b12) pk_ ?_
   exact end_1 rfl rfl (Env.le.rfl' _) ⟨rfl, rfl, false, rfl, fun h => by cases h⟩
  refine gz_ ?_
  cases h7 : decide (d.size ≤ x.off)
  case true =>
   refine gz_ ?_
   refine WE.drop (b := b3) pk_ ?_
   refine WE.drop (b := b7) pk_ ?_
   refine WE.drop (b := b12) pk_ ?_
   exact end_1 rfl rfl (Env.le.rfl' _) ⟨rfl, rfl, false, rfl, fun h => by cases h⟩
  have k6 := of_decide_eq_false h6
  have k7 := of_decide_eq_false h7
  refine gz_ ?_
  exact WE.again ⟨k2' + 1, rfl, rfl, rfl, rfl, hltk2', below_succ hx hallk2' ⟨hbl rfl, by omega, by omega, hm1.2, by omega, by omega, fun _ => ⟨by omega, by omega⟩⟩⟩ (by omega) ⟨rfl, rfl, rfl, congrArg (fun z => some (Value.int .i64 z)) hln.symm, rfl, rfl, congrArg (fun z => some (Value.int .i64 z)) hwi, trivial⟩ sm_
 have ek2' : k2' = d.mems.length := by omega
 subst ek2'
 refine gz_ ?_
 refine WC.condF rfl (decide_eq_false (by omega)) ?_
 refine gz_ ?_
 refine WC.loopE (fun m R' Γ' H' => ∃ k3' : Nat, R' = [(1, .slice (some ⟨bb, oo, none⟩) xs.length cap0), (2, .int .i64 (i : Int)), (7, .pointer (some ⟨b7, 0, none⟩)), (211, .slice ap d.pars.length capp), (212, .int .i64 (d.pars.length : Int)), (213, .int .i64 ((k3' : Nat) : Int))] ∧ Γ = Γ' ∧ H' = (b7, cel [.int .i64 d.kind, .string d.name, .int .i64 d.which, .int .i64 d.size, .int .i64 d.of, .slice ac d.cnts.length capc, .bool d.upper, .bool d.inc, .slice am d.mems.length capm, .slice ap d.pars.length capp, .slice ak d.cons.length capk] 49) :: (b3, cel [.int .i64 l.vers, .bool l.wide, .int .i64 l.size, .bool l.big, .bool l.far] 23) :: H ∧ m = d.pars.length - k3' ∧ k3' ≤ d.pars.length ∧ ∀ (q : Nat) y, q < k3' → d.pars[q]? = some y → y = -3 ∨ (0 ≤ y ∧ y < xs.length))
  ⟨0, rfl, rfl, rfl, rfl, Nat.zero_le _, fun _ _ h => absurd h (Nat.not_lt_zero _)⟩ sr_ sm_ ?_
 rintro m R' Γ' H' ⟨k3', rfl, rfl, rfl, rfl, hkk3', hallk3'⟩
 rcases Nat.lt_or_ge k3' d.pars.length with hltk3' | hgek3'
 case inl =>
  obtain ⟨x, hx⟩ : ∃ x, d.pars[k3']? = some x := ⟨_, List.getElem?_eq_getElem hltk3'⟩
  obtain ⟨bb1, oo1, c, rfl, hP, hc1⟩ := elemA hAp hLp (fun _ _ h => h.len) (w := 1) (by decide) hx
  cases hP
  have hwi : IntKind.i64.wrap ((k3' : Int) + 1) = (k3' : Int) + 1 := w_i64 (by omega) (by omega)
  obtain ⟨hc0, -⟩ := hc1
  refine gz_ ?_
  refine WC.condT rfl tr_ ?_
  refine gz_ ?_
  cases h1 : (x != -3)
  case true =>
   have k1 : x ≠ -3 := by simpa using h1
   refine gz_ ?_
   cases h2 : decide (x < 0)
   case true =>
    refine gz_ ?_
    refine WE.drop (b := b3) pk_ ?_
    refine WE.drop (b := b7) pk_ ?_
    exact end_1 rfl rfl (Env.le.rfl' _) ⟨rfl, rfl, false, rfl, fun h => by cases h⟩
   refine gz_ ?_
   cases h3 : decide ((xs.length : Int) ≤ x)
   case true =>
    refine gz_ ?_
    refine WE.drop (b := b3) pk_ ?_
    refine WE.drop (b := b7) pk_ ?_
    exact end_1 rfl rfl (Env.le.rfl' _) ⟨rfl, rfl, false, rfl, fun h => by cases h⟩
   refine gz_ ?_
   have k2 := of_decide_eq_false h2
   have k3 := of_decide_eq_false h3
   rw [show (x == -3) = false from beq_eq_false_iff_ne.2 k1]
   refine gz_ ?_
   exact WE.again ⟨k3' + 1, rfl, rfl, rfl, rfl, hltk3', below_succ hx hallk3' (.inr ⟨by omega, by omega⟩)⟩ (by omega) ⟨rfl, rfl, rfl, rfl, rfl, congrArg (fun z => some (Value.int .i64 z)) hwi, trivial⟩ sm_
  have k1 : x = -3 := by simpa using h1
  refine gz_ ?_
  rw [show (x == -3) = true from beq_iff_eq.2 k1]
  refine gz_ ?_
  cases h4 : decide ((k3' : Int) < IntKind.i64.wrap ((d.pars.length : Int) - 1))
  case true =>
   refine gz_ ?_
   refine WE.drop (b := b3) pk_ ?_
   refine WE.drop (b := b7) pk_ ?_
   exact end_1 rfl rfl (Env.le.rfl' _) ⟨rfl, rfl, false, rfl, fun h => by cases h⟩
  refine gz_ ?_
  exact WE.again ⟨k3' + 1, rfl, rfl, rfl, rfl, hltk3', below_succ hx hallk3' (.inl k1)⟩ (by omega) ⟨rfl, rfl, rfl, rfl, rfl, congrArg (fun z => some (Value.int .i64 z)) hwi, trivial⟩ sm_
 have ek3' : k3' = d.pars.length := by omega
 subst ek3'
 refine gz_ ?_
 refine WC.condF rfl (decide_eq_false (by omega)) ?_
 refine gz_ ?_
 refine WC.loopE (fun m R' Γ' H' => ∃ k4' : Nat, R' = [(1, .slice (some ⟨bb, oo, none⟩) xs.length cap0), (2, .int .i64 (i : Int)), (7, .pointer (some ⟨b7, 0, none⟩)), (244, .slice ak d.cons.length capk), (245, .int .i64 (d.cons.length : Int)), (246, .int .i64 ((k4' : Nat) : Int))] ∧ Γ = Γ' ∧ H' = (b7, cel [.int .i64 d.kind, .string d.name, .int .i64 d.which, .int .i64 d.size, .int .i64 d.of, .slice ac d.cnts.length capc, .bool d.upper, .bool d.inc, .slice am d.mems.length capm, .slice ap d.pars.length capp, .slice ak d.cons.length capk] 49) :: (b3, cel [.int .i64 l.vers, .bool l.wide, .int .i64 l.size, .bool l.big, .bool l.far] 23) :: H ∧ m = d.cons.length - k4' ∧ k4' ≤ d.cons.length ∧ ∀ (q : Nat) y, q < k4' → d.cons[q]? = some y → OkCon y)
  ⟨0, rfl, rfl, rfl, rfl, Nat.zero_le _, fun _ _ h => absurd h (Nat.not_lt_zero _)⟩ sr_ sm_ ?_
 rintro m R' Γ' H' ⟨k4', rfl, rfl, rfl, rfl, hkk4', hallk4'⟩
 rcases Nat.lt_or_ge k4' d.cons.length with hltk4' | hgek4'
 case inl =>
  obtain ⟨x, hx⟩ : ∃ x, d.cons[k4']? = some x := ⟨_, List.getElem?_eq_getElem hltk4'⟩
  obtain ⟨bb1, oo1, c, rfl, hP, hc1⟩ := elemA hAk hLk (fun _ _ h => h.len) (w := 2) (by decide) hx
  cases hP
  have hwi : IntKind.i64.wrap ((k4' : Int) + 1) = (k4' : Int) + 1 := w_i64 (by omega) (by omega)
  have hfx : x.name.size ≤ 2147483647 := hfd.con x (List.mem_of_getElem? hx)
  refine gz_ ?_
  refine WC.condT rfl tr_ ?_
  refine gz_ ?_
  (refine WL.alloc tab_ok rfl rfl ?_; intro b16)
  refine gz_ ?_
  refine WL.call rfl Tryz.call32 rfl rfl (by exact (isText_ok hfx)) ?_
  rintro _ _ _ - ⟨rfl, rfl, bl, rfl, hbl⟩
  refine gz_ ?_
  cases bl
  case false =>
   refine gz_ ?_
   refine WE.drop (b := b3) pk_ ?_
   refine WE.drop (b := b7) pk_ ?_
   refine WE.drop (b := b16) pk_ ?_
   exact end_1 rfl rfl (Env.le.rfl' _) ⟨rfl, rfl, false, rfl, fun h => by cases h⟩
  refine gz_ ?_
  cases h1 : decide ((1024 : Int) < (x.name.size : Int))
  case true =>
   refine gz_ ?_
   refine WE.drop (b := b3) pk_ ?_
   refine WE.drop (b := b7) pk_ ?_
   refine WE.drop (b := b16) pk_ ?_
   exact end_1 rfl rfl (Env.le.rfl' _) ⟨rfl, rfl, false, rfl, fun h => by cases h⟩
  refine gz_ ?_
  cases h2 : decide (x.val < -1099511627776)
  case true =>
   refine gz_ ?_
   refine WE.drop (b := b3) pk_ ?_
   refine WE.drop (b := b7) pk_ ?_
   refine WE.drop (b := b16) pk_ ?_
   exact end_1 rfl rfl (Env.le.rfl' _) ⟨rfl, rfl, false, rfl, fun h => by cases h⟩
  refine gz_ ?_
  cases h3 : decide ((1099511627776 : Int) < x.val)
  case true =>
   refine gz_ ?_
   refine WE.drop (b := b3) pk_ ?_
   refine WE.drop (b := b7) pk_ ?_
   refine WE.drop (b := b16) pk_ ?_
   exact end_1 rfl rfl (Env.le.rfl' _) ⟨rfl, rfl, false, rfl, fun h => by cases h⟩
  refine gz_ ?_
  have k1 := of_decide_eq_false h1
  have k2 := of_decide_eq_false h2
  have k3 := of_decide_eq_false h3
  exact WE.again ⟨k4' + 1, rfl, rfl, rfl, rfl, hltk4', below_succ hx hallk4' ⟨hbl rfl, by omega, by omega, by omega⟩⟩ (by omega) ⟨rfl, rfl, rfl, rfl, rfl, congrArg (fun z => some (Value.int .i64 z)) hwi, trivial⟩ sm_
 have ek4' : k4' = d.cons.length := by omega
 subst ek4'
 refine gz_ ?_
 refine WC.condF rfl (decide_eq_false (by omega)) ?_
 refine gz_ ?_
 cases h1 : decide ((1 : Int) ≤ d.kind)
 case false =>
  refine gz_ ?_
  refine WE.drop (b := b3) pk_ ?_
  refine WE.drop (b := b7) pk_ ?_
  exact end_1 rfl rfl (Env.le.rfl' _) ⟨rfl, rfl, false, rfl, fun h => by cases h⟩
 refine gz_ ?_
 cases h2 : decide (d.kind ≤ 16)
 case false =>
  refine gz_ ?_
  refine WE.drop (b := b3) pk_ ?_
  refine WE.drop (b := b7) pk_ ?_
  exact end_1 rfl rfl (Env.le.rfl' _) ⟨rfl, rfl, false, rfl, fun h => by cases h⟩
 refine gz_ ?_
 have k1 := of_decide_eq_true h1
 have k2 := of_decide_eq_true h2
 have fin : (d.inc = true → d.kind = 10 ∧ d.mems.length = 0) → OkDf xs.length i d := fun h => ⟨hd0, hd1, hd2, harr, fun q z hz => hallk q z (List.getElem?_eq_some_iff.1 hz).1 hz, fun q z hz => hallk2' q z (List.getElem?_eq_some_iff.1 hz).1 hz,
  fun p hp => by obtain ⟨q, hq, hqe⟩ := List.getElem_of_mem hp; exact hallk3' q p hq (by rw [List.getElem?_eq_getElem hq, hqe]),
  fun p hp => by obtain ⟨q, hq, hqe⟩ := List.getElem_of_mem hp; exact hallk4' q p hq (by rw [List.getElem?_eq_getElem hq, hqe]), k1, k2, h⟩
 cases hinc : d.inc
 case false =>
  refine gz_ ?_
  refine WE.drop (b := b3) pk_ ?_
  refine WE.drop (b := b7) pk_ ?_
  exact end_1 rfl rfl (Env.le.rfl' _) ⟨rfl, rfl, true, rfl, fun _ => fin fun h => by rw [hinc] at h; cases h⟩
 refine gz_ ?_
 cases h3 : (d.kind == 10)
 case false =>
  refine gz_ ?_
  refine WE.drop (b := b3) pk_ ?_
  refine WE.drop (b := b7) pk_ ?_
  exact end_1 rfl rfl (Env.le.rfl' _) ⟨rfl, rfl, false, rfl, fun h => by cases h⟩
 refine gz_ ?_
 cases h4 : ((d.mems.length : Int) == 0)
 case false =>
  refine gz_ ?_
  refine WE.drop (b := b3) pk_ ?_
  refine WE.drop (b := b7) pk_ ?_
  exact end_1 rfl rfl (Env.le.rfl' _) ⟨rfl, rfl, false, rfl, fun h => by cases h⟩
 refine gz_ ?_
 have k3 := eq_of_beq h3
 have k4 := eq_of_beq h4
 refine WE.drop (b := b3) pk_ ?_
 refine WE.drop (b := b7) pk_ ?_
 exact end_1 rfl rfl (Env.le.rfl' _) ⟨rfl, rfl, true, rfl, fun _ => fin fun _ => ⟨k3, by omega⟩⟩
structure OkDs (l : Lay) (xs : List Df) : Prop where
 lay : OkLay l
 n0 : 0 < xs.length
 n1 : xs.length ≤ 200
 light : sumBy wD xs ≤ 1048576
 each : ∀ i d, xs[i]? = some d → OkDf xs.length i d
theorem areDefs_ok {Γ : Env} {H : List Blk} {l : Lay} {xs : List Df} {v : Value} (h : Arr Γ (DfC Γ) v xs) (hfl : xs.length ≤ 2147483647) (hf : ∀ u ∈ xs, FitD u) :
  Spc Tryz.prog 8 #[layV l, v] Γ H (fun v Γ' H' => Γ = Γ' ∧ H = H' ∧ ∃ b, v = .bool b ∧ (b = true → OkDs l xs)) := by
 have hArr := h
 obtain ⟨a0, cap0, cells0, rfl, hcap0, hA0, hL0⟩ := h
 refine Spc.body2 Tryz.func8 rfl Tryz.ntmps8 rfl ?_
 refine WC.seq ?_
 refine WC.region ?_
 (refine WL.box rfl spi_ rfl ?_; intro b2)
 refine gs_ ?_
 refine WE.then_ ?_
 refine WC.seq ?_
 refine WC.cutM (fun R' Γ' H' => R' = [(1, .slice a0 xs.length cap0), (2, .pointer (some ⟨b2, 0, none⟩))] ∧ Γ = Γ' ∧ H' = (b2, cel [.int .i64 l.vers, .bool l.wide, .int .i64 l.size, .bool l.big, .bool l.far] 23) :: H ∧ (OkLay l ∧ 0 < xs.length ∧ xs.length ≤ 200 ∧ sumBy wD xs ≤ 1048576)) ?_ ?_
 ·refine gz_ ?_
  refine WL.call rfl Tryz.call16 rfl rfl (by exact (isLayout_ok l)) ?_
  rintro _ _ _ - ⟨rfl, rfl, bl, rfl, hbl⟩
  refine gz_ ?_
  cases bl
  case false =>
   refine gz_ ?_
   refine WE.drop (b := b2) pk_ ?_
   exact end_1 rfl rfl (Env.le.rfl' _) ⟨rfl, rfl, false, rfl, fun h => by cases h⟩
  refine gz_ ?_
  cases h1 : ((xs.length : Int) == 0)
  case true =>
   refine gz_ ?_
   refine WE.drop (b := b2) pk_ ?_
   exact end_1 rfl rfl (Env.le.rfl' _) ⟨rfl, rfl, false, rfl, fun h => by cases h⟩
  refine gz_ ?_
  cases h2 : decide ((200 : Int) < (xs.length : Int))
  case true =>
   refine gz_ ?_
   refine WE.drop (b := b2) pk_ ?_
   exact end_1 rfl rfl (Env.le.rfl' _) ⟨rfl, rfl, false, rfl, fun h => by cases h⟩
  refine gz_ ?_
  have k1 := ne_of_beq_false h1
  have k2 := of_decide_eq_false h2
  refine WL.call rfl Tryz.call17 rfl rfl (by exact (areLight_ok hArr hfl hf)) ?_
  rintro _ _ _ - ⟨rfl, rfl, bl, rfl, hbl2⟩
  refine gz_ ?_
  cases bl
  case false =>
   refine gz_ ?_
   refine WE.drop (b := b2) pk_ ?_
   exact end_1 rfl rfl (Env.le.rfl' _) ⟨rfl, rfl, false, rfl, fun h => by cases h⟩
  refine gz_ ?_
  exact WE.mid ⟨rfl, rfl, rfl, hbl rfl, by omega, by omega, hbl2 rfl⟩ sr_ sm_
 rintro R' Γ' H' ⟨rfl, rfl, rfl, q1, q2, q3, q4⟩
 refine gz_ ?_
 refine WC.loopE (fun m R' Γ' H' => ∃ k : Nat, R' = [(1, .slice a0 xs.length cap0), (2, .pointer (some ⟨b2, 0, none⟩)), (25, .int .i64 (xs.length : Int)), (26, .int .i64 ((k : Nat) : Int))] ∧ Γ = Γ' ∧ H' = (b2, cel [.int .i64 l.vers, .bool l.wide, .int .i64 l.size, .bool l.big, .bool l.far] 23) :: H ∧ m = xs.length - k ∧ k ≤ xs.length ∧ ∀ (q : Nat) y, q < k → xs[q]? = some y → OkDf xs.length q y)
  ⟨0, rfl, rfl, rfl, rfl, Nat.zero_le _, fun _ _ h => absurd h (Nat.not_lt_zero _)⟩ sr_ sm_ ?_
 rintro m R' Γ' H' ⟨k, rfl, rfl, rfl, rfl, hk, hall⟩
 rcases Nat.lt_or_ge k xs.length with hlt | hge
 case inl =>
  obtain ⟨x, hx⟩ : ∃ x, xs[k]? = some x := ⟨_, List.getElem?_eq_getElem hlt⟩
  have hwi : IntKind.i64.wrap ((k : Int) + 1) = (k : Int) + 1 := w_i64 (by omega) (by omega)
  refine gz_ ?_
  refine WC.condT rfl tr_ ?_
  refine gz_ ?_
  refine WL.call rfl Tryz.call18 rfl rfl (by exact (isDef_ok hArr hfl hf hx)) ?_
  rintro _ _ _ - ⟨rfl, rfl, bl, rfl, hbl⟩
  refine gz_ ?_
  cases bl
  case false =>
   refine gz_ ?_
   refine WE.drop (b := b2) pk_ ?_
   exact end_1 rfl rfl (Env.le.rfl' _) ⟨rfl, rfl, false, rfl, fun h => by cases h⟩
  refine gz_ ?_
  exact WE.again ⟨k + 1, rfl, rfl, rfl, rfl, hlt, below_succ hx hall (hbl rfl)⟩ (by omega) ⟨rfl, rfl, rfl, congrArg (fun z => some (Value.int .i64 z)) hwi, trivial⟩ sm_
 have ek : k = xs.length := by omega
 subst ek
 refine gz_ ?_
 refine WC.condF rfl (decide_eq_false (by omega)) ?_
 refine gz_ ?_
 refine WE.drop (b := b2) pk_ ?_
 exact end_1 rfl rfl (Env.le.rfl' _) ⟨rfl, rfl, true, rfl, fun _ => ⟨q1, q2, q3, q4, fun q z hz => hall q z (List.getElem?_eq_some_iff.1 hz).1 hz⟩⟩
def u64n (z : Int) : Nat := (z % 18446744073709551616).toNat
theorem wrap_u64n (z : Int) : IntKind.u64.wrap z = ((u64n z : Nat) : Int) := by
 simp only [IntKind.wrap, IntKind.bits, IntKind.signed, u64n]; simp; omega
theorem u64n_lt (z : Int) : u64n z < 18446744073709551616 := by unfold u64n; omega
theorem u64n_nat {z : Int} (h0 : 0 ≤ z) (h1 : z < 18446744073709551616) : u64n z = z.toNat := by unfold u64n; omega
def nameA (s : ByteArray) : Att := ⟨3, 8, false, 0, s, []⟩
def plainA (a n : Int) : Att := ⟨a, 15, false, u64n n, noS, []⟩
def ofT (l : Lay) (pl : List Int) (n : Int) : List Att := if n < 0 then [] else [⟨73, if l.far then 16 else 19, false, u64n (pl.getD n.toNat 0), noS, []⟩]
def attW (a : Att) : List Value := [.int .i64 a.attr, .int .i64 a.form, .bool false, .int .u64 (a.n : Int), .string a.s, nilS]
def attsW : List Att → List Value
 | [] => []
 | a :: l => attW a ++ attsW l
theorem attsW_append : ∀ a b, attsW (a ++ b) = attsW a ++ attsW b
 | [], _ => rfl
 | r :: a, b => by simp [attsW, attsW_append a b]
structure AttS (a : Att) : Prop where
 ind : a.ind = false
 b : a.b = []
 n : a.n < 18446744073709551616
theorem nameA_S (s : ByteArray) : AttS (nameA s) := ⟨rfl, rfl, by show (0 : Nat) < _; omega⟩
theorem plainA_S (a n : Int) : AttS (plainA a n) := ⟨rfl, rfl, u64n_lt n⟩
theorem ofT_S {l : Lay} {pl : List Int} {n : Int} : ∀ a ∈ ofT l pl n, AttS a := fun a h => by
 unfold ofT at h
 split at h
 ·simp at h
 ·simp only [List.mem_singleton] at h; subst h; exact ⟨rfl, rfl, u64n_lt _⟩
theorem attsW_lis {Γ : Env} : ∀ {l : List Att}, (∀ a ∈ l, AttS a) → LisC (AttC Γ) l (attsW l)
 | [], _ => rfl
 | a :: l, h => by
  obtain ⟨h1, h2, h3⟩ := h a (List.mem_cons_self ..)
  refine ⟨attW a, attsW l, rfl, ⟨nilS, by rw [h1]; rfl, ?_, h3⟩, attsW_lis fun b hb => h b (List.mem_cons_of_mem _ hb)⟩
  rw [h2]; exact ⟨none, 0, rfl, Nat.le_refl _, fun i x e => by simp at e⟩
theorem attsW_one : ∀ {l : List Att}, ∀ y ∈ attsW l, y.oneCell' = true
 | [], y, h => by simp [attsW] at h
 | a :: l, y, h => by
  rcases List.mem_append.1 h with h | h
  ·simp only [attW, List.mem_cons, List.not_mem_nil, or_false] at h
   rcases h with rfl | rfl | rfl | rfl | rfl | rfl <;> rfl
  ·exact attsW_one y h
theorem numC_get {Γ : Env} {a : Option Addr} {cells : List Value} {xs : List Int} {i : Nat} {z : Int} (hA : ImA Γ a cells) (hL : LisC NumC xs cells) (hx : xs[i]? = some z) :
  ∃ b o, a = some ⟨b, o, none⟩ ∧ Γ.cell b (o + ((i : Nat) : Int).toNat * 1) = some (.int .i64 z) := by
 obtain ⟨b, o, c, h1, h2, h3⟩ := elemA hA hL (fun _ _ h => h.len) (w := 1) (by decide) hx
 cases h2
 exact ⟨b, o, h1, h3.1⟩
theorem ofType_ok {Γ : Env} {H : List Blk} {l : Lay} {n : Int} {vp : Value} {pl : List Int} (hP : Arr Γ NumC vp pl) (hn : n < pl.length) :
  Spc Tryz.prog 47 #[layV l, .int .i64 n, vp] Γ H (fun v Γ' H' => Γ = Γ' ∧ ∃ Hs, Ow 6 v (ofT l pl n).length (attsW (ofT l pl n)) Hs ∧ H' = Hs ++ H) := by
 obtain ⟨a, cap, cells, rfl, hcap, hA, hL⟩ := hP
 refine Spc.body3 Tryz.func47 rfl Tryz.ntmps47 rfl ?_
 refine WC.seq ?_
 refine WC.region ?_
 (refine WL.box rfl spi_ rfl ?_; intro b3)
 refine gz_ ?_
 by_cases h0 : n < 0
 ·refine WC.condT rfl (decide_eq_true h0) ?_
  refine gz_ ?_
  refine WE.drop (b := b3) pk_ ?_
  rw [show ofT l pl n = [] by unfold ofT; rw [if_pos h0]]
  exact end_1 rfl rfl (Env.le.rfl' _) ⟨rfl, [], Ow.nil, rfl⟩
 obtain ⟨k, rfl⟩ : ∃ k : Nat, n = (k : Int) := ⟨n.toNat, by omega⟩
 have hk : k < pl.length := by omega
 obtain ⟨z, hz⟩ : ∃ z, pl[k]? = some z := ⟨_, List.getElem?_eq_getElem hk⟩
 obtain ⟨b, o, rfl, hc⟩ := numC_get hA hL hz
 have e : ofT l pl (k : Int) = [⟨73, if l.far then 16 else 19, false, u64n z, noS, []⟩] := by
  unfold ofT; rw [if_neg h0, Int.toNat_natCast, List.getD_eq_getElem?_getD, hz]; rfl
 rw [e]
 refine WC.condF rfl (decide_eq_false h0) ?_
 refine gz_ ?_
 cases hf : l.far
 ·refine gz_ ?_
  rw [wrap_u64n]
  refine gz_ ?_
  (refine WL.lit tab_ok rfl rfl rfl rfl rfl rfl rfl spi_ rfl ?_; intro bl)
  refine gz_ ?_
  refine WE.drop (b := b3) pk_ ?_
  exact end_1 rfl rfl (Env.le.rfl' _) ⟨rfl, _, Ow.lit (s := 6) (b := bl) (k := 1) (T := 142) (l := attsW [⟨73, 19, false, u64n z, noS, []⟩]) rfl, rfl⟩
 ·refine gz_ ?_
  rw [wrap_u64n]
  refine gz_ ?_
  (refine WL.lit tab_ok rfl rfl rfl rfl rfl rfl rfl spi_ rfl ?_; intro bl)
  refine gz_ ?_
  refine WE.drop (b := b3) pk_ ?_
  exact end_1 rfl rfl (Env.le.rfl' _) ⟨rfl, _, Ow.lit (s := 6) (b := bl) (k := 1) (T := 142) (l := attsW [⟨73, 16, false, u64n z, noS, []⟩]) rfl, rfl⟩
theorem name_ok {Γ : Env} {H : List Blk} {s : ByteArray} :
  Spc Tryz.prog 48 #[.string s] Γ H (fun v Γ' H' => Γ = Γ' ∧ H = H' ∧ v = .agg (attW (nameA s)).toArray) := by
 refine Spc.body1 Tryz.func48 rfl Tryz.ntmps48 rfl ?_
 refine WC.seq ?_
 refine WC.region ?_
 (refine WL.alloc tab_ok rfl rfl ?_; intro b2)
 refine gz_ ?_
 exact end_c tab_ok rfl rfl rfl rfl Pick.here rfl (Env.le.rfl' _) ⟨rfl, rfl, rfl⟩
theorem plain_ok {Γ : Env} {H : List Blk} {a n : Int} :
  Spc Tryz.prog 49 #[.int .i64 a, .int .i64 n] Γ H (fun v Γ' H' => Γ = Γ' ∧ H = H' ∧ v = .agg (attW (plainA a n)).toArray) := by
 refine Spc.body2 Tryz.func49 rfl Tryz.ntmps49 rfl ?_
 refine WC.seq ?_
 refine WC.region ?_
 (refine WL.alloc tab_ok rfl rfl ?_; intro b2)
 refine gs_ ?_
 refine WE.then_ ?_
 refine WC.seq ?_
 refine WC.region ?_
 refine gz_ ?_
 exact end_c tab_ok rfl rfl rfl rfl Pick.here rfl (Env.le.rfl' _) ⟨rfl, rfl, by rw [wrap_u64n]; rfl⟩
end Go.Proofs.YtbgkbgoonjkghaaGreatDoor
