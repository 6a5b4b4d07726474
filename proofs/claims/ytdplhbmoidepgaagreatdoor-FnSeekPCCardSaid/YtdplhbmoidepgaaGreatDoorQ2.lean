/- What an entry says of its places: the plain law. The places of an entry: Data.Ranges. samePlaces, and the places of an entry as the thin package tells them. FnRangesAre and FnRangesNone: the walks. -/
import Derived.Test.YtdplhbmoidepgaaGreatDoorQ1
import Derived.ChangeKeysEq
import Derived.Laws.StructEq
import Derived.Test.YtdplhbmoidepgaaGreatDoorH4
namespace Go.Proofs.YtdplhbmoidepgaaGreatDoor
open Go Go.Sl
set_option maxRecDepth 10000
set_option maxHeartbeats 4000000

/-- What an entry says of its places, where lists of places stand in a section. -/
inductive RgS (l : Lay) (tag : Nat) (its : List Itm) (rt : List UInt8) : List (Nat × Nat) → Prop where
  | none : its.find? (isA 17) = none → its.find? (isA 18) = none → its.find? (isA 85) = none → RgS l tag its rt []
  | flat {x y : Itm} {lo hi : Nat} : its.find? (isA 17) = some x → x.fv = .u lo → its.find? (isA 18) = some y →
      ((formClass y.form y.attr l.vers = 1 ∧ y.fv = .u hi) ∨ (formClass y.form y.attr l.vers = 3 ∧ y.fv = .i ((hi - lo : Nat) : Int))) → lo ≤ hi → hi < 2147483648 →
      its.find? (isA 85) = none → RgS l tag its rt [(lo, hi)]
  | list {x y : Itm} {lo k : Nat} {ps : List Pie} {post : List UInt8} : tag = 17 → its.find? (isA 17) = some x → x.fv = .u lo → its.find? (isA 18) = none → its.find? (isA 82) = none → its.find? (isA 85) = some y →
      y.fv = .i (k : Int) → formClass y.form y.attr l.vers = 9 → lo < 2147483648 → k ≤ rt.length → (∀ p ∈ ps, OkPie l.vers p) → ps.length ≤ 100 →
      rt.drop k = piesT l ps ++ (if l.vers < 5 then fix 0 l.size.toNat l.big ++ (fix 0 l.size.toNat l.big ++ post) else 0 :: post) → RgS l tag its rt (plcsL lo ps)
theorem attsI_none {v : Int} {w : Bool} {z : Int} {big : Bool} {base c : Nat} : ∀ {l : List Att} {so lo : Nat}, (∀ a ∈ l, a.attr.toNat ≠ c) → (attsI v w z big base so lo l).find? (isA c) = none
  | [], _, _, _ => rfl
  | a :: l, so, lo, h => by
    rw [attsI, List.find?_cons, show isA c (attI v w z big base so lo a) = false from beq_eq_false_iff_ne.2 (h a (List.mem_cons_self ..))]
    exact attsI_none fun b hb => h b (List.mem_cons_of_mem _ hb)
theorem attsI_skip {v : Int} {w : Bool} {z : Int} {big : Bool} {base c : Nat} {a : Att} {l : List Att} {so lo : Nat} (h : a.attr.toNat ≠ c) :
    (attsI v w z big base so lo (a :: l)).find? (isA c) = (attsI v w z big base (so + (attS a).length) (lo + (attL a).length) l).find? (isA c) := by
  rw [attsI, List.find?_cons, show isA c (attI v w z big base so lo a) = false from beq_eq_false_iff_ne.2 h]
theorem attsI_hit {v : Int} {w : Bool} {z : Int} {big : Bool} {base c : Nat} {a : Att} {l : List Att} {so lo : Nat} (h : a.attr.toNat = c) :
    (attsI v w z big base so lo (a :: l)).find? (isA c) = some (attI v w z big base so lo a) := by
  rw [attsI, List.find?_cons, show isA c (attI v w z big base so lo a) = true from beq_iff_eq.2 h]
theorem kept {n : List Att} {a : Att} (h : a ∈ n.filter keepA) : a.attr ≠ 17 ∧ a.attr ≠ 18 ∧ a.attr ≠ 82 ∧ a.attr ≠ 85 := by
  have := (List.mem_filter.1 h).2
  unfold keepA at this
  simp only [Bool.and_eq_true, bne_iff_ne, ne_eq] at this
  exact ⟨this.1.1.1.1.1, this.1.1.1.1.2, this.1.1.2, this.1.2⟩
theorem fv_u {v a f : Int} {base n : Nat} (h : (clsOf v a f).1 = 1) : attFV v base (attN a f n) = .u n := by
  unfold attFV attN; simp only; rw [h]; rfl
theorem fv_i {v a f : Int} {base n : Nat} (h : (clsOf v a f).1 = 3 ∨ (clsOf v a f).1 = 6) (hn : n < 9223372036854775808) : attFV v base (attN a f n) = .i (n : Int) := by
  unfold attFV attN; simp only
  rcases h with h | h
  all_goals rw [h]; simp only [i64w_small hn]; rfl
theorem span_says {l : Lay} {x : Spn} {kk base so lo nx : Nat} {n : Nod} {rt post : List UInt8} (hx : OkSpn l x) (hk : kk ≤ rt.length) (hkk : kk < 2147483648) (hrt : x.lst = true → rt.drop kk = lstT l x ++ post) :
    RgS l 17 (nodI l.vers l.wide l.size l.big base so lo nx (spanN l x kk n)) rt (plcs x) := by
  have hz := hx.lay.sz
  have hv2 := hx.lay.v2
  have hv5 := hx.lay.v5
  have e0 : nodI l.vers l.wide l.size l.big base so lo nx (spanN l x kk n) = attsI l.vers l.wide l.size l.big base so lo (spanA l x kk ++ n.atts.filter keepA) := rfl
  have h1 := hx.low
  have h2 := hx.high
  rw [e0]
  have none4 : ∀ (c : Nat), c = 17 ∨ c = 18 ∨ c = 82 ∨ c = 85 → ∀ (so lo : Nat), (attsI l.vers l.wide l.size l.big base so lo (n.atts.filter keepA)).find? (isA c) = none := fun c hc so lo =>
    attsI_none fun a ha => by
      have := kept ha
      omega
  have f17 : clsOf l.vers 17 1 = clsOf 2 17 1 := rfl
  cases hl : x.lst with
  | true =>
    have hA : spanA l x kk ++ n.atts.filter keepA = attN 17 1 x.low :: attN 85 (if l.vers < 4 then (if l.wide then 7 else 6) else 23) kk :: n.atts.filter keepA := by
      unfold spanA; rw [hl]; rfl
    rw [hA]
    have hp : plcs x = plcsL x.low x.pies := by unfold plcs; rw [if_pos hl]
    rw [hp]
    have hrt' := hrt hl
    refine RgS.list (post := post) (k := kk) (lo := x.low) rfl (attsI_hit rfl) ?_ ?_ ?_ ((attsI_skip (by show Int.toNat 17 ≠ 85; decide)).trans (attsI_hit rfl)) ?_ ?_ h1 hk (hx.pie hl) hx.np ?_
    · exact fv_u (v := l.vers) (base := base) (a := 17) (f := 1) rfl
    · rw [attsI_skip (by show Int.toNat 17 ≠ 18; decide), attsI_skip (by show Int.toNat 85 ≠ 18; decide)]; exact none4 18 (by omega) _ _
    · rw [attsI_skip (by show Int.toNat 17 ≠ 82; decide), attsI_skip (by show Int.toNat 85 ≠ 82; decide)]; exact none4 82 (by omega) _ _
    · refine fv_i (v := l.vers) (base := base) (a := 85) (f := if l.vers < 4 then (if l.wide then 7 else 6) else 23) ?_ (by omega)
      by_cases h4 : l.vers < 4
      · rw [if_pos h4]; cases l.wide <;> simp [clsOf, h4]
      · rw [if_neg h4]; simp [clsOf]
    · show formClass (Int.toNat (if l.vers < 4 then (if l.wide then 7 else 6) else 23)) ((Int.toNat 85 : Nat) : Int) l.vers = 9
      by_cases h4 : l.vers < 4
      · have e := decide_eq_true h4
        have p1 : (ptrC 85).isSome = true := by decide
        have p2 : (ptrC 85).getD 0 = 9 := by decide
        rw [if_pos h4]; cases l.wide <;> simp [formClass, e, p1, p2, h4]
      · rw [if_neg h4]
        have p1 : (ptrC 85).isSome = true := by decide
        have p2 : (ptrC 85).getD 0 = 9 := by decide
        simp [formClass, p1, p2]
    · rw [hrt', lstT, List.append_assoc]
      split <;> simp
  | false =>
    have hf := hx.flat hl
    have hp : plcs x = [(x.low, x.high)] := by unfold plcs; rw [hl]; rfl
    rw [hp]
    cases hn : x.len with
    | true =>
      have h4 := hx.len hn
      have hA : spanA l x kk ++ n.atts.filter keepA = attN 17 1 x.low :: attN 18 7 (x.high - x.low) :: n.atts.filter keepA := by
        unfold spanA; rw [hl, hn]; rfl
      rw [hA]
      refine RgS.flat (lo := x.low) (hi := x.high) (attsI_hit rfl) (show attFV l.vers base (attN 17 1 x.low) = .u x.low from fv_u (v := l.vers) (a := 17) (f := 1) rfl) ((attsI_skip (by show Int.toNat 17 ≠ 18; decide)).trans (attsI_hit rfl)) (.inr ⟨?_, ?_⟩) (by omega) h2 ?_
      · show formClass 7 18 l.vers = 3
        have e : decide (l.vers < 4) = false := decide_eq_false (by omega)
        simp [formClass, e]
      · refine fv_i (v := l.vers) (base := base) (a := 18) (f := 7) ?_ (by omega)
        have e : ¬ l.vers < 4 := by omega
        simp [clsOf, e]
      · rw [attsI_skip (by show Int.toNat 17 ≠ 85; decide), attsI_skip (by show Int.toNat 18 ≠ 85; decide)]; exact none4 85 (by omega) _ _
    | false =>
      have hA : spanA l x kk ++ n.atts.filter keepA = attN 17 1 x.low :: attN 18 1 x.high :: n.atts.filter keepA := by
        unfold spanA; rw [hl, hn]; rfl
      rw [hA]
      refine RgS.flat (lo := x.low) (hi := x.high) (attsI_hit rfl) (show attFV l.vers base (attN 17 1 x.low) = .u x.low from fv_u (v := l.vers) (a := 17) (f := 1) rfl) ((attsI_skip (by show Int.toNat 17 ≠ 18; decide)).trans (attsI_hit rfl)) (.inl ⟨rfl, show attFV l.vers base (attN 18 1 x.high) = .u x.high from fv_u (v := l.vers) (a := 18) (f := 1) rfl⟩) (by omega) h2 ?_
      rw [attsI_skip (by show Int.toNat 17 ≠ 85; decide), attsI_skip (by show Int.toNat 18 ≠ 85; decide)]; exact none4 85 (by omega) _ _
theorem node_says {l : Lay} {v : Int} {w : Bool} {z : Int} {big : Bool} {base so lo nx tag : Nat} {x : Nod} {rt : List UInt8} (h : ∀ a ∈ x.atts, a.attr ≠ 17 ∧ a.attr ≠ 18 ∧ a.attr ≠ 85) :
    RgS l tag (nodI v w z big base so lo nx x) rt [] := by
  have key : ∀ c : Nat, c = 17 ∨ c = 18 ∨ c = 85 → (nodI v w z big base so lo nx x).find? (isA c) = none := fun c hc => by
    have h1 : (attsI v w z big base so lo x.atts).find? (isA c) = none := attsI_none fun a ha => by have := h a ha; omega
    unfold nodI
    cases x.sib with
    | false => exact h1
    | true =>
      simp only [if_true, List.singleton_append, List.find?_cons]
      rw [show isA c (sibI big base nx) = false from beq_eq_false_iff_ne.2 (by show 1 ≠ c; omega)]
      exact h1
  exact .none (key 17 (by omega)) (key 18 (by omega)) (key 85 (by omega))
/-! ### Where the lists stand -/
/-- The section of lists. -/
def rtOf (l : Lay) (sp : List Spn) : List UInt8 := if 4 < l.vers then headT l (lstsT l sp) else lstsT l sp
theorem rt_pre {l : Lay} {b : List UInt8} : ∃ pre, pre.length = bgn l ∧ (if 4 < l.vers then headT l b else b) = pre ++ b := by
  by_cases h : 4 < l.vers
  · refine ⟨lenB l.wide (lhB l b).length l.big ++ (fix 5 2 l.big ++ ([UInt8.ofNat l.size.toNat, 0] ++ fix 0 4 l.big)), ?_, ?_⟩
    · unfold bgn; rw [if_pos h, headT_len]
      simp only [List.length_append, lenB_length, fix_length, List.length_cons, List.length_nil]
    · rw [if_pos h]; unfold headT
      conv => lhs; arg 2; unfold lhB
      simp only [List.append_assoc]
  · exact ⟨[], by unfold bgn; rw [if_neg h]; rfl, by rw [if_neg h]; rfl⟩
theorem rt_drop {l : Lay} {sp : List Spn} {i : Nat} {x : Spn} (hx : sp[i]? = some x) : ∃ post, (rtOf l sp).drop (bgn l + (lstsT l (sp.take i)).length) = lstZ l x ++ post ∧ bgn l + (lstsT l (sp.take i)).length ≤ (rtOf l sp).length := by
  obtain ⟨q, hq⟩ := flat_split (lstZ l) hx
  obtain ⟨pre, h1, h2⟩ := rt_pre (l := l) (b := lstsT l sp)
  have h3 : rtOf l sp = (pre ++ lstsT l (sp.take i)) ++ (lstZ l x ++ q) := by
    unfold rtOf; rw [h2, List.append_assoc]; exact congrArg _ hq
  exact ⟨q, drop_at h3 (by rw [List.length_append, h1]), by rw [h3, List.length_append, List.length_append, h1]; omega⟩
end Go.Proofs.YtdplhbmoidepgaaGreatDoor
namespace Go.Proofs.YtdplhbmoidepgaaGreatDoor
open Go Go.Sl
set_option maxRecDepth 10000
set_option maxHeartbeats 40000000

theorem baseEnt_ok {Γ : Env} {H : List Blk} {pd pe eo lo : Nat} {ch : Bool} {its : List Itm} {vers : Int} {x : Itm} (hE : EntR Γ pe eo 17 ch its vers) (hfew : its.length < 2147483648)
   (h82 : its.find? (isA 82) = none) (h17 : its.find? (isA 17) = some x) (hx : x.fv = .u lo) :
   Spc Tryz.prog 65 #[.pointer (some ⟨pd, 0, none⟩), .pointer (some ⟨pe, 0, none⟩)] Γ H (fun v Γ' H' => Γ = Γ' ∧ H = H' ∧ v = .tuple #[.pointer (some ⟨pe, 0, none⟩), .int .u64 (lo : Int), .nilIface]) := by
  have htag : Γ.cell pe (0 + 1) = some (.int .u32 17) := hE.tag
  refine Spc.body2 Tryz.func65 rfl Tryz.ntmps65 rfl ?_
  refine gz_ ?_
  refine WL.call rfl Tryz.call62 rfl rfl (by exact (val_ok hE 82 hfew)) ?_
  rintro v _ _ - ⟨rfl, rfl, hv⟩
  rw [h82] at hv
  simp only at hv
  subst hv
  refine gz_ ?_
  refine WL.call rfl Tryz.call62 rfl rfl (by exact (val_ok hE 17 hfew)) ?_
  rintro v _ _ - ⟨rfl, rfl, hv⟩
  rw [h17] at hv
  obtain ⟨t, w, rfl, hFV⟩ := hv
  rw [hx] at hFV
  cases hFV
  refine gz_ ?_
  exact end_3 rfl rfl rfl rfl (Env.le.rfl' _) ⟨rfl, rfl, rfl⟩
theorem UnR.app {Γ : Env} {F G : List Blk} {big : Bool} {pd pu : Nat} {us : List PU} (h : UnR Γ F big pd pu us) : UnR Γ (G ++ F) big pd pu us := by
  obtain ⟨h1, cs, F2, h2, h3⟩ := h
  exact ⟨h1.app, cs, G ++ F2, Pick.over h2, h3⟩
theorem ranges_ok {Γ : Env} {H : List Blk} {pd pu pe eo tag k : Nat} {ch : Bool} {its : List Itm} {l : Lay} {us : List PU} {u : PU} {rt : List UInt8} {vR vRl : Value} {rs : List (Nat × Nat)}
   (hRS : RgS l tag its rt rs) (hE : EntR Γ pe eo tag ch its u.vers) (hfew : its.length < 2147483648) (hUR : UnR Γ H l.big pd pu us) (hn : us.length ≤ 2147483647) (hall : (pusB l.big us).length < 2147483648)
   (hu : us[k]? = some u) (h1 : offU l.big us k ≤ eo) (h2 : eo < offU l.big us k + u.body.length) (hvv : (u.vers : Int) = l.vers) (hz : u.size = l.size.toNat) (hzl : l.size = 4 ∨ l.size = 8)
   (h14 : Rd Γ H pd 14 (.bool l.big)) (h6 : Rd Γ H pd 6 vR) (h11 : Rd Γ H pd 11 vRl) (hrl : rt.length < 2147483648)
   (hrt : (4 < l.vers ∧ Byt Γ vRl rt ∧ rt ≠ []) ∨ (l.vers ≤ 4 ∧ Byt Γ vR rt)) :
   Spc Tryz.prog 36 #[.pointer (some ⟨pd, 0, none⟩), .pointer (some ⟨pe, 0, none⟩)] Γ H (fun v Γ' H' => Γ = Γ' ∧ ∃ vo Hs, v = .tuple #[vo, .nilIface] ∧ Ow 2 vo rs.length (pcells rs) Hs ∧ H' = Hs ++ H) := by
  have hoff : Γ.cell pe 0 = some (.int .u32 (eo : Int)) := hE.off
  have hk := (List.getElem?_eq_some_iff.1 hu).1
  have hstep := offU_step (big := l.big) hu
  have hmono := pusB_take_mono (big := l.big) (us := us) (i := k + 1) (j := us.length) (by omega) (Nat.le_refl _)
  rw [List.take_length] at hmono
  have hneR : ∀ {v : Value}, Byt Γ v rt → rt ≠ [] → ∃ a c, v = .slice (some a) rt.length c := fun {v} hB hne => by
    obtain ⟨a, c, rfl, hc, hA⟩ := hB
    obtain ⟨x, hx⟩ : ∃ x, rt[0]? = some x := ⟨_, List.getElem?_eq_getElem (by have := List.length_pos_iff.2 hne; omega)⟩
    obtain ⟨b, o, rfl, -⟩ := hA 0 x hx
    exact ⟨_, _, rfl⟩
  obtain ⟨rs0, hP, hT⟩ : ∃ rs0 : List (Nat × Nat), ((rs0 = [] ∧ its.find? (isA 18) = none ∧ (its.find? (isA 17) = none ∨ ∃ x lo, its.find? (isA 17) = some x ∧ x.fv = .u lo)) ∨
      (∃ x y lo hi, rs0 = [(lo, hi)] ∧ its.find? (isA 17) = some x ∧ x.fv = .u lo ∧ its.find? (isA 18) = some y ∧ ((formClass y.form y.attr l.vers = 1 ∧ y.fv = .u hi) ∨ (formClass y.form y.attr l.vers = 3 ∧ y.fv = .i ((hi - lo : Nat) : Int))) ∧ lo ≤ hi ∧ hi < 2147483648)) ∧
      ((rs = rs0 ∧ its.find? (isA 85) = none) ∨ (rs0 = [] ∧ ∃ x y lo n ps post, tag = 17 ∧ its.find? (isA 17) = some x ∧ x.fv = .u lo ∧ its.find? (isA 82) = none ∧ its.find? (isA 85) = some y ∧
      y.fv = .i ((n : Nat) : Int) ∧ formClass y.form y.attr l.vers = 9 ∧ lo < 2147483648 ∧ n ≤ rt.length ∧ (∀ p ∈ ps, OkPie l.vers p) ∧ ps.length ≤ 100 ∧ rs = plcsL lo ps ∧
      rt.drop n = piesT l ps ++ (if l.vers < 5 then fix 0 l.size.toNat l.big ++ (fix 0 l.size.toNat l.big ++ post) else 0 :: post))) := by
    cases hRS with
    | none a b c => exact ⟨[], .inl ⟨rfl, b, .inl a⟩, .inl ⟨rfl, c⟩⟩
    | flat a b c d e f g => exact ⟨_, .inr ⟨_, _, _, _, rfl, a, b, c, d, e, f⟩, .inl ⟨rfl, g⟩⟩
    | list a b c d e f g i j m o p q => exact ⟨[], .inl ⟨rfl, d, .inr ⟨_, _, b, c⟩⟩, .inr ⟨rfl, _, _, _, _, _, _, a, b, c, e, f, g, i, j, m, o, p, rfl, q⟩⟩
  clear hRS
  refine Spc.body2 Tryz.func36 rfl Tryz.ntmps36 rfl ?_
  refine gz_ ?_
  refine WL.call rfl Tryz.call62 rfl rfl (by exact (val_ok hE 17 hfew)) ?_
  rintro v _ _ - ⟨rfl, rfl, hv17⟩
  obtain ⟨dU, r, es, c, u5, hdU, him, hes, hrd⟩ := hUR.cell hu
  have gsl := hUR.sl
  have e9 : 0 + Int.toNat ((k : Nat) : Int) * 9 = k * 9 := by omega
  rcases hP with ⟨rfl, h18, h17 | ⟨x, lo, h17, hx⟩⟩ | ⟨x, y, lo, hi, rfl, h17, hx, h18, hy, hlh, hhi⟩
  · rw [h17] at hv17
    simp only at hv17
    subst hv17
    rcases hT with ⟨rfl, h85⟩ | ⟨-, _, _, _, _, _, _, -, h17', -⟩
    case inr => rw [h17] at h17'; cases h17'
    refine gz_ ?_
    refine WL.call rfl Tryz.call63 rfl rfl (by exact (attrField_ok hE 18 hfew)) ?_
    rintro v _ _ - ⟨rfl, rfl, hv18⟩
    rw [h18] at hv18
    simp only at hv18
    subst hv18
    refine gz_ ?_
    refine WL.call rfl Tryz.call64 rfl rfl (by exact (offsetToUnit_ok (k := k) (off := eo) hUR hn hall hu h1 h2)) ?_
    rintro _ _ H9 - ⟨rfl, e0, rfl⟩
    have e0 := e0.symm
    subst e0
    refine gz_ ?_
    refine WC.condT rfl (decide_eq_true (by omega)) ?_
    have hvc : Rd Γ H pu (0 + Int.toNat ((k : Nat) : Int) * 9 + 6) (.int .i64 ((u.vers : Nat) : Int)) := by rw [e9]; exact hrd 6 _ rfl
    refine gz_ ?_
    rcases hrt with ⟨hv4, hB, hne⟩ | ⟨hv4, hB⟩
    · obtain ⟨aR, cR, rfl⟩ := hneR hB hne
      rw [show decide ((5 : Int) ≤ ((u.vers : Nat) : Int)) = true from decide_eq_true (by omega)]
      refine gz_ ?_
      refine WL.call rfl Tryz.call63 rfl rfl (by exact (attrField_ok hE 85 hfew)) ?_
      rintro v _ _ - ⟨rfl, rfl, hv85⟩
      rw [h85] at hv85
      simp only at hv85
      subst hv85
      refine gz_ ?_
      exact end_2 rfl rfl rfl (Env.le.rfl' _) ⟨rfl, _, [], rfl, Ow.nil, rfl⟩
    · rw [show decide ((5 : Int) ≤ ((u.vers : Nat) : Int)) = false from decide_eq_false (by omega)]
      refine gz_ ?_
      refine WL.call rfl Tryz.call62 rfl rfl (by exact (val_ok hE 85 hfew)) ?_
      rintro v _ _ - ⟨rfl, rfl, hv85⟩
      rw [h85] at hv85
      simp only at hv85
      subst hv85
      refine gz_ ?_
      exact end_2 rfl rfl rfl (Env.le.rfl' _) ⟨rfl, _, [], rfl, Ow.nil, rfl⟩
  · rw [h17] at hv17
    obtain ⟨t17, w17, rfl, hF17⟩ := hv17
    rw [hx] at hF17
    cases hF17
    refine gz_ ?_
    refine WL.call rfl Tryz.call63 rfl rfl (by exact (attrField_ok hE 18 hfew)) ?_
    rintro v _ _ - ⟨rfl, rfl, hv18⟩
    rw [h18] at hv18
    simp only at hv18
    subst hv18
    rcases hT with ⟨rfl, h85⟩ | ⟨-, x', y, lo', n, ps, post, rfl, h17', hx', h82, h85, hy, hcl, hlo, hn1, hps, hnp, rfl, hat⟩
    · refine gz_ ?_
      refine WL.call rfl Tryz.call64 rfl rfl (by exact (offsetToUnit_ok (k := k) (off := eo) hUR hn hall hu h1 h2)) ?_
      rintro _ _ H9 - ⟨rfl, e0, rfl⟩
      have e0 := e0.symm
      subst e0
      refine gz_ ?_
      refine WC.condT rfl (decide_eq_true (by omega)) ?_
      have hvc : Rd Γ H pu (0 + Int.toNat ((k : Nat) : Int) * 9 + 6) (.int .i64 ((u.vers : Nat) : Int)) := by rw [e9]; exact hrd 6 _ rfl
      refine gz_ ?_
      rcases hrt with ⟨hv4, hB, hne⟩ | ⟨hv4, hB⟩
      · obtain ⟨aR, cR, rfl⟩ := hneR hB hne
        rw [show decide ((5 : Int) ≤ ((u.vers : Nat) : Int)) = true from decide_eq_true (by omega)]
        refine gz_ ?_
        refine WL.call rfl Tryz.call63 rfl rfl (by exact (attrField_ok hE 85 hfew)) ?_
        rintro v _ _ - ⟨rfl, rfl, hv85⟩
        rw [h85] at hv85
        simp only at hv85
        subst hv85
        refine gz_ ?_
        exact end_2 rfl rfl rfl (Env.le.rfl' _) ⟨rfl, _, [], rfl, Ow.nil, rfl⟩
      · rw [show decide ((5 : Int) ≤ ((u.vers : Nat) : Int)) = false from decide_eq_false (by omega)]
        refine gz_ ?_
        refine WL.call rfl Tryz.call62 rfl rfl (by exact (val_ok hE 85 hfew)) ?_
        rintro v _ _ - ⟨rfl, rfl, hv85⟩
        rw [h85] at hv85
        simp only at hv85
        subst hv85
        refine gz_ ?_
        exact end_2 rfl rfl rfl (Env.le.rfl' _) ⟨rfl, _, [], rfl, Ow.nil, rfl⟩
    rw [h17] at h17'
    injection h17' with h17'
    subst h17'
    rw [hx] at hx'
    injection hx' with hx'
    subst hx'
    refine gz_ ?_
    refine WL.call rfl Tryz.call64 rfl rfl (by exact (offsetToUnit_ok (k := k) (off := eo) hUR hn hall hu h1 h2)) ?_
    rintro _ _ H9 - ⟨rfl, e0, rfl⟩
    have e0 := e0.symm
    subst e0
    refine gz_ ?_
    refine WC.condT rfl (decide_eq_true (by omega)) ?_
    have hvc : Rd Γ H pu (0 + Int.toNat ((k : Nat) : Int) * 9 + 6) (.int .i64 ((u.vers : Nat) : Int)) := by rw [e9]; exact hrd 6 _ rfl
    refine gz_ ?_
    rcases hrt with ⟨hv4, hB, hne⟩ | ⟨hv4, hB⟩
    · obtain ⟨aR, cR, rfl⟩ := hneR hB hne
      rw [show decide ((5 : Int) ≤ ((u.vers : Nat) : Int)) = true from decide_eq_true (by omega)]
      rw [if_neg (by omega)] at hat
      refine gz_ ?_
      refine WL.call rfl Tryz.call63 rfl rfl (by exact (attrField_ok hE 85 hfew)) ?_
      rintro v _ _ - ⟨rfl, rfl, hv85⟩
      rw [h85] at hv85
      obtain ⟨pf, o, t, w, rfl, hc1, hc2, hFV⟩ := hv85
      rw [hy] at hFV
      cases hFV
      rw [hvv, hcl] at hc2
      refine gz_ ?_
      refine WL.call rfl Tryz.call65 rfl rfl (by exact (baseEnt_ok hE hfew h82 h17 hx)) ?_
      rintro _ _ _ - ⟨rfl, rfl, rfl⟩
      refine gz_ ?_
      rw [e9]
      refine WL.call rfl Tryz.call66 rfl rfl (by exact (dwarf5_ok hzl (by omega) h14 h11 hB (by rw [← hz]; exact hrd 5 _ rfl) hE hfew hps hnp hn1 hrl hlo hat)) ?_
      rintro _ _ _ - ⟨rfl, vo, Hs, rfl, how, rfl⟩
      refine gz_ ?_
      exact end_2 rfl rfl rfl (Env.le.rfl' _) ⟨rfl, _, Hs, rfl, how, rfl⟩
    · rw [show decide ((5 : Int) ≤ ((u.vers : Nat) : Int)) = false from decide_eq_false (by omega)]
      rw [if_pos (by omega)] at hat
      refine gz_ ?_
      refine WL.call rfl Tryz.call62 rfl rfl (by exact (val_ok hE 85 hfew)) ?_
      rintro v _ _ - ⟨rfl, rfl, hv85⟩
      rw [h85] at hv85
      obtain ⟨t, w, rfl, hFV⟩ := hv85
      rw [hy] at hFV
      cases hFV
      have hne : rt ≠ [] := by
        intro e
        rw [e] at hat
        have := congrArg List.length hat
        simp only [List.drop_nil, List.length_nil, List.length_append, fix_length] at this
        omega
      obtain ⟨aR, cR, rfl⟩ := hneR hB hne
      refine gz_ ?_
      refine WL.call rfl Tryz.call65 rfl rfl (by exact (baseEnt_ok hE hfew h82 h17 hx)) ?_
      rintro _ _ _ - ⟨rfl, rfl, rfl⟩
      refine gz_ ?_
      rw [e9]
      refine WL.call rfl Tryz.call67 rfl rfl (by exact (dwarf2_ok hzl (by omega) h14 h6 hB (by rw [← hz]; exact hrd 5 _ rfl) hps hnp hn1 hrl hlo hat)) ?_
      rintro _ _ _ - ⟨rfl, vo, Hs, rfl, how, rfl⟩
      refine gz_ ?_
      exact end_2 rfl rfl rfl (Env.le.rfl' _) ⟨rfl, _, Hs, rfl, how, rfl⟩
  · rw [h17] at hv17
    obtain ⟨t17, w17, rfl, hF17⟩ := hv17
    rw [hx] at hF17
    cases hF17
    rcases hT with ⟨rfl, h85⟩ | ⟨h, -⟩
    case inr => cases h
    have hlo64 : lo < 2147483648 := by omega
    refine gz_ ?_
    refine WL.call rfl Tryz.call63 rfl rfl (by exact (attrField_ok hE 18 hfew)) ?_
    rintro v _ _ - ⟨rfl, rfl, hv18⟩
    rw [h18] at hv18
    obtain ⟨pf, o, t, w, rfl, hc1, hc2, hFV⟩ := hv18
    rcases hy with ⟨hcl, hy⟩ | ⟨hcl, hy⟩
    · rw [hy] at hFV
      cases hFV
      rw [hvv, hcl] at hc2
      refine gz_ ?_
      refine WL.buildArr tab_ok rfl rfl rfl rfl rfl spi_ rfl ?_
      (refine WL.lit tab_ok rfl rfl rfl rfl rfl rfl rfl spi_ rfl ?_; intro bl)
      refine WL.append (v := .slice none 0 0) tab_ok rfl rfl rfl rfl rfl rfl rfl rfl (Ow.nil (s := 2)) (Hs := []) (Tk.here (Hs := [])) ((Ow.lit (s := 2) (b := bl) (k := 1) (l := [.int .u64 (lo : Int), .int .u64 (hi : Int)]) (T := 105) rfl).src tab_ok rfl (Tk.here (Hs := [(bl, _)])) (fun q hq => by simp at hq; rcases hq with rfl | rfl <;> rfl)) (by omega) (by omega) (fun v2 Hs how => ?_)
      refine WL.lose (Hs := [(bl, _)]) (by ((repeat (first | apply Tk.one | apply Tk.skip | apply Tk.over)); (first | done | fail))) ?_
      rw [List.nil_append, Nat.zero_add] at how
      have gA : Rd Γ (Hs ++ H) pd 17 _ := gsl.app
      have gB : Rd Γ (Hs ++ H) pd 11 vRl := h11.app
      refine gz_ ?_
      refine WL.call rfl Tryz.call64 rfl rfl (by exact (offsetToUnit_ok (k := k) (off := eo) hUR.app hn hall hu h1 h2)) ?_
      rintro _ _ H9 - ⟨rfl, e0, rfl⟩
      have e0 := e0.symm
      subst e0
      refine gz_ ?_
      refine WC.condT rfl (decide_eq_true (by omega)) ?_
      have hvc : Rd Γ (Hs ++ H) pu (0 + Int.toNat ((k : Nat) : Int) * 9 + 6) (.int .i64 ((u.vers : Nat) : Int)) := by rw [e9]; exact (hrd 6 _ rfl).app
      refine gz_ ?_
      rcases hrt with ⟨hv4, hB, hne⟩ | ⟨hv4, hB⟩
      · obtain ⟨aR, cR, rfl⟩ := hneR hB hne
        rw [show decide ((5 : Int) ≤ ((u.vers : Nat) : Int)) = true from decide_eq_true (by omega)]
        refine gz_ ?_
        refine WL.call rfl Tryz.call63 rfl rfl (by exact (attrField_ok hE 85 hfew)) ?_
        rintro v _ _ - ⟨rfl, rfl, hv85⟩
        rw [h85] at hv85
        simp only at hv85
        subst hv85
        refine gz_ ?_
        exact end_2 rfl rfl rfl (Env.le.rfl' _) ⟨rfl, _, Hs, rfl, how, rfl⟩
      · rw [show decide ((5 : Int) ≤ ((u.vers : Nat) : Int)) = false from decide_eq_false (by omega)]
        refine gz_ ?_
        refine WL.call rfl Tryz.call62 rfl rfl (by exact (val_ok hE 85 hfew)) ?_
        rintro v _ _ - ⟨rfl, rfl, hv85⟩
        rw [h85] at hv85
        simp only at hv85
        subst hv85
        refine gz_ ?_
        exact end_2 rfl rfl rfl (Env.le.rfl' _) ⟨rfl, _, Hs, rfl, how, rfl⟩
    · rw [hy] at hFV
      cases hFV
      rw [hvv, hcl] at hc2
      refine gz_ ?_
      rw [show IntKind.u64.wrap ((hi - lo : Nat) : Int) = ((hi - lo : Nat) : Int) from w_u64 (by omega) (by omega)]
      rw [show IntKind.u64.wrap ((lo : Int) + ((hi - lo : Nat) : Int)) = (hi : Int) from by rw [w_u64 (by omega) (by omega)]; omega]
      refine gz_ ?_
      refine WL.buildArr tab_ok rfl rfl rfl rfl rfl spi_ rfl ?_
      (refine WL.lit tab_ok rfl rfl rfl rfl rfl rfl rfl spi_ rfl ?_; intro bl)
      refine WL.append (v := .slice none 0 0) tab_ok rfl rfl rfl rfl rfl rfl rfl rfl (Ow.nil (s := 2)) (Hs := []) (Tk.here (Hs := [])) ((Ow.lit (s := 2) (b := bl) (k := 1) (l := [.int .u64 (lo : Int), .int .u64 (hi : Int)]) (T := 105) rfl).src tab_ok rfl (Tk.here (Hs := [(bl, _)])) (fun q hq => by simp at hq; rcases hq with rfl | rfl <;> rfl)) (by omega) (by omega) (fun v2 Hs how => ?_)
      refine WL.lose (Hs := [(bl, _)]) (by ((repeat (first | apply Tk.one | apply Tk.skip | apply Tk.over)); (first | done | fail))) ?_
      rw [List.nil_append, Nat.zero_add] at how
      have gA : Rd Γ (Hs ++ H) pd 17 _ := gsl.app
      have gB : Rd Γ (Hs ++ H) pd 11 vRl := h11.app
      refine gz_ ?_
      refine WL.call rfl Tryz.call64 rfl rfl (by exact (offsetToUnit_ok (k := k) (off := eo) hUR.app hn hall hu h1 h2)) ?_
      rintro _ _ H9 - ⟨rfl, e0, rfl⟩
      have e0 := e0.symm
      subst e0
      refine gz_ ?_
      refine WC.condT rfl (decide_eq_true (by omega)) ?_
      have hvc : Rd Γ (Hs ++ H) pu (0 + Int.toNat ((k : Nat) : Int) * 9 + 6) (.int .i64 ((u.vers : Nat) : Int)) := by rw [e9]; exact (hrd 6 _ rfl).app
      refine gz_ ?_
      rcases hrt with ⟨hv4, hB, hne⟩ | ⟨hv4, hB⟩
      · obtain ⟨aR, cR, rfl⟩ := hneR hB hne
        rw [show decide ((5 : Int) ≤ ((u.vers : Nat) : Int)) = true from decide_eq_true (by omega)]
        refine gz_ ?_
        refine WL.call rfl Tryz.call63 rfl rfl (by exact (attrField_ok hE 85 hfew)) ?_
        rintro v _ _ - ⟨rfl, rfl, hv85⟩
        rw [h85] at hv85
        simp only at hv85
        subst hv85
        refine gz_ ?_
        exact end_2 rfl rfl rfl (Env.le.rfl' _) ⟨rfl, _, Hs, rfl, how, rfl⟩
      · rw [show decide ((5 : Int) ≤ ((u.vers : Nat) : Int)) = false from decide_eq_false (by omega)]
        refine gz_ ?_
        refine WL.call rfl Tryz.call62 rfl rfl (by exact (val_ok hE 85 hfew)) ?_
        rintro v _ _ - ⟨rfl, rfl, hv85⟩
        rw [h85] at hv85
        simp only at hv85
        subst hv85
        refine gz_ ?_
        exact end_2 rfl rfl rfl (Env.le.rfl' _) ⟨rfl, _, Hs, rfl, how, rfl⟩
end Go.Proofs.YtdplhbmoidepgaaGreatDoor
namespace Go.Sl
open Go
section
variable {P : Program} {ops : Array Oper} {Q : Post} {n : Nat} {D : List Deferred} {R : Regs} {Γ : Env} {H : List Blk} {rest : List Oper}
variable {d : Nat} {ty : TypeId} {pos : String} {aft : Array Edge}
theorem run_neq_pair {t e : TypeId} {kk : IntKind} {i : TypeInfo} (hu : P.underlying t = some (.array 2 e)) (he : P.underlying e = some (.int kk)) (hi : P.info? e = some i) (hc : P.cellsOf e = 1) (hp : P.plainKey e = true) (k : IntKind) (a b : Int) (w : World) :
    (binOp .neq t (.agg #[.int k a, .int k b]) (.agg #[.int k a, .int k b])).run P w = .ok (.bool false) w := by
  have hpt : ∀ (j : Nat) (v : Value), (#[Value.int k a, .int k b] : Array Value)[j]? = some v → (part e #[Value.int k a, .int k b] j).run P w = .ok v w := fun j v hj => run_part_plain w hp hj
  rw [run_neq_struct, show (10000 : Nat) = 9999 + 1 from rfl, run_equalIn_array w 9999 _ _ hu hi, hc]
  have h0 := hpt 0 (.int k a) rfl
  have h1 := hpt 1 (.int k b) rfl
  have e2 : (Op.eqItems 9999 e 1 #[Value.int k a, .int k b] #[Value.int k a, .int k b] (List.range 2)).run P w = .ok true w := by
    show (Op.eqItems 9999 e 1 #[Value.int k a, .int k b] #[Value.int k a, .int k b] [0, 1]).run P w = .ok true w
    simp only [Op.eqItems, Sem.run_bind, Nat.zero_mul, Nat.one_mul, h0, h1, Result.andThen_ok]
    rw [show (9999 : Nat) = 9998 + 1 from rfl, run_equalIn_int w 9998 e k kk a a he]
    simp only [Result.andThen_ok, beq_self_eq_true, Bool.not_true, Bool.false_eq_true, if_false, Sem.run_bind, h1]
    rw [run_equalIn_int w 9998 e k kk b b he]
    simp
  rw [e2]; rfl
/-- Two pairs that are the same are not different. -/
theorem WL.nePair {T : Tab} (hT : TabOk P T) {t e : TypeId} {kk : IntKind} {x y : Operand} {k : IntKind} {a b : Int} {i : TypeInfo} (hx : ev R x = some (.agg #[.int k a, .int k b])) (hy : ev R y = some (.agg #[.int k a, .int k b]))
    (hu : T.desc t = some (.array 2 e)) (he : T.desc e = some (.int kk)) (hi : P.info? e = some i) (hc : P.cellsOf e = 1) (hp : P.plainKey e = true) (hg : P.eqGuardType P.depth t = false) (hd : Nat.blt d n = true)
    {o5 : TypeId} (K : WL P ops Q n D rest ((d, .bool false) :: R) Γ H) : WL P ops Q n D (⟨some d, .binOp .neq t x y o5, ty, pos, aft, none⟩ :: rest) R Γ H :=
  WL.value hd fun s w hs => by
    refine ⟨_, w, ?_, Γ, H, hs.st, K⟩
    simp only [execOp, ev_eval hs.regs hx, ev_eval hs.regs hy, Sem.run_bind, run_eqGuard_agg w .neq t x y _ _ hg, Result.andThen_ok, run_neq_pair (Tab.desc_ok hT hu) (Tab.desc_ok hT he) hi hc hp k a b w, Sem.run_pure]
end
end Go.Sl
namespace Go.Proofs.YtdplhbmoidepgaaGreatDoor
open Go Go.Sl
set_option maxRecDepth 10000
set_option maxHeartbeats 40000000

theorem samePlaces_ok {Γ : Env} {H : List Blk} {v1 v2 : Value} {xs : List (Nat × Nat)} (h1 : Arr Γ PairC v1 xs) (h2 : Arr Γ PairC v2 xs) (hn : xs.length ≤ 2147483647) :
   Spc Tryz.prog 14 #[v1, v2] Γ H (fun v Γ' H' => Γ = Γ' ∧ H = H' ∧ v = .bool true) := by
  obtain ⟨a1, cap1, cells1, rfl, hcap1, hA1, hL1⟩ := h1
  obtain ⟨a2, cap2, cells2, rfl, hcap2, hA2, hL2⟩ := h2
  refine Spc.body2 Tryz.func14 rfl Tryz.ntmps14 rfl ?_
  refine gz_ ?_
  rw [show ((xs.length : Int) != (xs.length : Int)) = false from by simp]
  refine gz_ ?_
  refine WC.loopE (fun m R' Γ' H' => ∃ i, R' = [(0, .slice a1 xs.length cap1), (1, .slice a2 xs.length cap2), (12, .int .i64 (xs.length : Int)), (13, .int .i64 ((i : Nat) : Int))] ∧ Γ = Γ' ∧ H = H' ∧ m = xs.length - i ∧ i ≤ xs.length)
    ⟨0, rfl, rfl, rfl, rfl, Nat.zero_le _⟩ sr_ (fun _ h => h) ?_
  rintro m R' Γ' H' ⟨i, rfl, rfl, rfl, rfl, hi⟩
  rcases Nat.lt_or_ge i xs.length with hlt | hge
  case inr =>
    have ei : i = xs.length := by omega
    subst ei
    refine gz_ ?_
    refine WC.condF rfl (decide_eq_false (by omega)) ?_
    refine gz_ ?_
    exact end_1 rfl rfl (Env.le.rfl' _) ⟨rfl, rfl, rfl⟩
  case inl =>
    obtain ⟨⟨x, y⟩, hx⟩ : ∃ y, xs[i]? = some y := ⟨_, List.getElem?_eq_getElem hlt⟩
    obtain ⟨b1, o1, c1, rfl, hP1, hc1⟩ := elemA hA1 hL1 (fun _ _ h => h.len) (w := 2) (by decide) hx
    obtain ⟨b2, o2, c2, rfl, hP2, hc2⟩ := elemA hA2 hL2 (fun _ _ h => h.len) (w := 2) (by decide) hx
    unfold PairC at hP1 hP2
    subst hP1 hP2
    simp only at hc1 hc2
    have hwi : IntKind.i64.wrap ((i : Int) + 1) = (i : Int) + 1 := w_i64 (by omega) (by omega)
    refine gz_ ?_
    refine WC.condT rfl (by first | rfl | exact decide_eq_true (by omega) | (simp; (first | done | fail)) | (simp; omega)) ?_
    refine gz_ ?_
    refine WC.draw 9 (.take 0 (.take 1 (.take 2 (.take 3 (.take 4 (.take 5 (.take 6 (.take 7 (.one 8 .done))))))))) (H) mixed (by (repeat (first | exact trivial | refine ⟨⟨_, pk_⟩, ?_⟩ | exact subH_self _ | apply subH_cons)); (first | done | fail)) (by decide +kernel) ?_
    refine dz_ ?_
    refine WL.nePair tab_ok rfl rfl rfl rfl rfl (by kernel_rfl) (by kernel_rfl) (by kernel_rfl) rfl ?_
    refine dz_ ?_
    refine gz_ ?_
    exact WE.again ⟨i + 1, rfl, rfl, rfl, rfl, hlt⟩ (by omega) ⟨rfl, rfl, rfl, congrArg (fun z => some (Value.int .i64 z)) hwi, trivial⟩ sm_
theorem one_pc : ∀ {l : List (Nat × Nat)}, ∀ y ∈ pcells l, y.oneCell' = true
  | [], _, h => by simp [pcells] at h
  | r :: l, y, h => by
    simp only [pcells, List.mem_cons] at h
    rcases h with rfl | rfl | h
    · rfl
    · rfl
    · exact one_pc y h
theorem Im.pairs {Γ : Env} {v : Value} {xs : List (Nat × Nat)} (h : Im Γ v xs.length (pcells xs)) : Arr Γ PairC v xs := by
  obtain ⟨a, cap, rfl, hc, hA⟩ := h
  exact ⟨a, cap, _, rfl, hc, hA, pairs_lis xs⟩
theorem rangesAt_ok {Γ : Env} {H : List Blk} {l : Lay} {v : Value} {ab ln rg sr lin rt : List UInt8} {rl : Option (List UInt8)} {us : List PU} {u u0 : PU} {k off : Nat} {a : Abb} {its : List Itm} {pre post : List UInt8} {rs : List (Nat × Nat)}
   (hG : Glob Γ) (hv : SecR Γ v ab (pusB l.big us) ln rg sr lin rl)
   (hok : ∀ u ∈ us, OkPU ab u) (hdis : us.Pairwise (fun a b => a.abo ≠ b.abo)) (hsa : ab.length < 2147483648) (hall : (pusB l.big us).length < 2147483648) (hn : us.length ≤ 2147483647)
   (hln : ln.length < 2147483648) (hrg : rg.length < 2147483648) (hsr : sr.length < 2147483648) (hlin : lin.length < 2147483648) (hrl : ∀ r, rl = some r → r.length < 2147483648)
   (hu0 : us[0]? = some u0) (hT0 : PTop (uctx l.big sr lin 0 u0) u0) (hu : us[k]? = some u) (hT : PTop (uctx l.big sr lin (pusB l.big (us.take k)).length u) u)
   (hb : u.body = pre ++ (ulebL a.code ++ (itexts its ++ post))) (hoff : off = offU l.big us k + pre.length) (hD : Die (uctx l.big sr lin (pusB l.big (us.take k)).length u) u.abs a its)
   (hRS : RgS l a.tag its rt rs) (hrn : rs.length ≤ 1000) (hvv : (u.vers : Int) = l.vers) (hz : u.size = l.size.toNat) (hzl : l.size = 4 ∨ l.size = 8)
   (hrt : (4 < l.vers ∧ rl = some rt ∧ rt ≠ []) ∨ (l.vers ≤ 4 ∧ rg = rt)) :
   Spc Tryz.prog 13 #[v, .int .i64 (off : Int)] Γ H (fun v Γ' H' => ∃ vo, v = .tuple #[vo, .int .i64 0] ∧ Im Γ' vo rs.length (pcells rs) ∧ H' = H) := by
  have hn0 : 0 < us.length := (List.getElem?_eq_some_iff.1 hu0).1
  have hstep := offU_step (big := l.big) hu
  have hpos := ulebL_pos a.code
  have hbl : u.body.length = pre.length + ((ulebL a.code).length + ((itexts its).length + post.length)) := by rw [hb, List.length_append, List.length_append, List.length_append]
  have hrtl : rt.length < 2147483648 := by
    rcases hrt with ⟨-, h, -⟩ | ⟨-, h⟩
    · exact hrl _ h
    · rw [← h]; exact hrg
  have hv' := hv
  obtain ⟨vA, vI, vL, vR, vS, vD, rfl, -⟩ := hv'.ex
  refine Spc.body2 Tryz.func13 rfl Tryz.ntmps13 rfl ?_
  refine WC.seq ?_
  refine WC.region ?_
  (refine WL.box rfl spi_ rfl ?_; intro b)
  refine gz_ ?_
  refine WL.call rfl Tryz.call31 rfl rfl (by exact (open_ok hG hv hok hdis hsa hall (by omega) hn0 hln hrg hsr hlin hrl)) ?_
  rintro _ Γ1 _ hle1 ⟨pd, pu, rc, r2, r3, cs, dA, dI, dL, dR, dS, vl, vr, rfl, hcs, hR, hS, hl, hr, rfl⟩
  refine gz_ ?_
  refine WL.call rfl Tryz.call35 rfl rfl (by exact (entryAt_ok (ux := u) (b0 := 0) (F := (pd, cel (dcs dA dI dL dR dS nls vl nls vr rc r2 r3 l.big l.big (.slice (some ⟨pu, 0, none⟩) us.length us.length)) 173) :: _) (hG.mono hle1) pk_ hcs ⟨⟨dS, .inr ⟨_, _, _, _, pk_, rfl⟩, hS⟩, ⟨vl, .inr ⟨_, _, _, _, pk_, rfl⟩, hl⟩, .inr ⟨_, _, _, _, pk_, rfl⟩, hsr, hlin⟩ (.inr ⟨_, _, _, _, pk_, rfl⟩) hn hall (fun u hu => (hok u hu).dist) hu0 hT0 hu hT hb hoff hD)) ?_
  rintro _ Γ2 _ hle2 ⟨pe, cs2, rfl, hE, hq2, rfl⟩
  have hle12 := hle1.trans hle2
  refine gz_ ?_
  refine WL.call rfl Tryz.call36 rfl rfl (by exact (ranges_ok (vR := dR) (vRl := vr) (k := k) (pu := pu) hRS hE hD.few ⟨.inr ⟨_, _, _, _, pk_, rfl⟩, cs2, _, Pick.here, hq2⟩ hn hall hu (by omega) (by omega) hvv hz hzl (.inr ⟨_, _, _, _, pk_, rfl⟩) (.inr ⟨_, _, _, _, pk_, rfl⟩) (.inr ⟨_, _, _, _, pk_, rfl⟩) hrtl (by
      rcases hrt with ⟨h1, h2, h3⟩ | ⟨h1, h2⟩
      · subst h2; exact .inl ⟨h1, Byt.mono hle2 hr, h3⟩
      · subst h2; exact .inr ⟨h1, hR.mono hle2⟩))) ?_
  rintro _ _ _ - ⟨rfl, vo, Hs, rfl, how, rfl⟩
  refine gz_ ?_
  refine WL.append (v := .slice none 0 0) tab_ok rfl rfl rfl rfl rfl rfl rfl rfl (Ow.nil (s := 2)) (Hs := []) (Tk.here (Hs := [])) (how.src tab_ok rfl (Tk.here (Hs := Hs)) one_pc) (by omega) (by omega) (fun v' Hs' ho => ?_)
  rw [List.nil_append, Nat.zero_add] at ho
  refine WL.keep ho Tk.here (fun Γ3 hle3 him => ?_)
  refine gz_ ?_
  refine WL.call rfl Tryz.call32 rfl rfl (by exact codeOfN_ok) ?_
  rintro _ _ _ - ⟨rfl, rfl, rfl⟩
  refine gz_ ?_
  refine WE.lose (Tk.here (Hs := Hs)) ?_
  refine WE.drop (b := pu) pk_ ?_
  refine WE.drop (b := pd) pk_ ?_
  refine WE.drop (b := b) pk_ ?_
  exact end_2 rfl rfl rfl (hle12.trans hle3) ⟨v', rfl, him, rfl⟩
end Go.Proofs.YtdplhbmoidepgaaGreatDoor
namespace Go.Proofs.YtdplhbmoidepgaaGreatDoor
open Go Go.Sl
set_option maxRecDepth 10000
set_option maxHeartbeats 40000000

theorem hdz_hsz {u : Uni} {big : Bool} {abo base so lo : Nat} (hT : UniT u) : hdz u big = lsz u.wide + hsz (puU u big abo base so lo) := by
  have h1 := hdB_eq (big := big) (abo := abo) (base := base) (so := so) (lo := lo) hT
  have h2 := hdB_length big (puU u big abo base so lo)
  rw [h1, hdrE_len] at h2
  rw [hdz, hdrE_len, h2]
/-- Where an entry stands. -/
theorem off_at {big : Bool} {U : List Uni} {k : Nat} {u : Uni} (hT : UniT u) (hk : U[k]? = some u) {i off : Nat} (ho : (plU u big (baseU big U k) (strT (U.take k)).length (linT (U.take k)).length)[i]? = some off) :
    off = offU big (pusU big 0 0 0 0 U) k + offN big U k u i := by
  have h1 := plN_get ho
  rw [nodL_take] at h1
  rw [offU_get (puAt_get hk), ← baseU_eq, h1, hdz_hsz (abo := (abT (U.take k)).length) (base := baseU big U k) (so := (strT (U.take k)).length) (lo := (linT (U.take k)).length) hT]
  show _ = baseU big U k + lsz u.wide + hsz (puAt big U k u) + offN big U k u i
  unfold puAt offN; omega
theorem ptop_at {l : Lay} {sp : List Spn} {us : List Uni} (hok : OkSpd l sp us) (hR : MkR l sp us) {k : Nat} {x : Spn} {u : Uni} (hx : sp[k]? = some x) (hu : us[k]? = some u) :
    PTop (uctx l.big (strT (mkU l sp us)) (linT (mkU l sp us)) (baseU l.big (mkU l sp us) k) (puAt l.big (mkU l sp us) k (uniS l x (bgn l + (lstsT l (sp.take k)).length) u))) (puAt l.big (mkU l sp us) k (uniS l x (bgn l + (lstsT l (sp.take k)).length) u)) := by
  obtain ⟨x', hx', hm⟩ := mkU_get hok hu
  rw [hx] at hx'; injection hx' with hx'; subst hx'
  obtain ⟨-, -, -, -, hou⟩ := hok.each k x u hx hu
  obtain ⟨n0, -, hn0⟩ := top_nod (l := l) (x := x) (k := bgn l + (lstsT l (sp.take k)).length) hou.n0
  obtain ⟨pre, post, hb, hpl, hD⟩ := die_at (big := l.big) hR.uni hm hR.inf hR.str hR.lin hn0 (by show (17 : Int) ≠ 0; decide)
  have hp0 : pre = [] := List.eq_nil_of_length_eq_zero (by rw [hpl]; rfl)
  subst hp0
  have hz2 := (hR.uni _ (List.mem_of_getElem? hm)).sz
  exact ⟨by show Int.toNat _ = 4 ∨ Int.toNat _ = 8; omega, _, _, post, hb, hD⟩
theorem rangesAt_spd {Γ : Env} {H : List Blk} {l : Lay} {sp : List Spn} {us : List Uni} {v : Value} {k i off : Nat} {xs : Spn} {u0 : Uni} {x : Nod} {rs : List (Nat × Nat)} (hG : Glob Γ) (hok : OkSpd l sp us) (hR : MkR l sp us)
   (hS : SecR Γ v (abT (mkU l sp us)) (pusB l.big (pusU l.big 0 0 0 0 (mkU l sp us))) [] (if 4 < l.vers then [] else lstsT l sp) (strT (mkU l sp us)) (linT (mkU l sp us)) (if 4 < l.vers then some (headT l (lstsT l sp)) else none))
   (hxs : sp[k]? = some xs) (hu0 : us[k]? = some u0) (hx : (uniS l xs (bgn l + (lstsT l (sp.take k)).length) u0).nods[i]? = some x) (ht : x.tag ≠ 0)
   (ho : (plU (uniS l xs (bgn l + (lstsT l (sp.take k)).length) u0) l.big (baseU l.big (mkU l sp us) k) (strT ((mkU l sp us).take k)).length (linT ((mkU l sp us).take k)).length)[i]? = some off)
   (hRS : RgS l x.tag.toNat (itsAt l.big (mkU l sp us) k (uniS l xs (bgn l + (lstsT l (sp.take k)).length) u0) i x) (rtOf l sp) rs) (hrn : rs.length ≤ 1000) :
   Spc Tryz.prog 13 #[v, .int .i64 (off : Int)] Γ H (fun v Γ' H' => ∃ vo, v = .tuple #[vo, .int .i64 0] ∧ Im Γ' vo rs.length (pcells rs) ∧ H' = H) := by
  obtain ⟨x', hx', hm⟩ := mkU_get hok hu0
  rw [hxs] at hx'; injection hx' with hx'; subst hx'
  obtain ⟨uz, huz⟩ : ∃ u, us[0]? = some u := ⟨_, List.getElem?_eq_getElem hR.n0⟩
  obtain ⟨xz, hxz, hmz⟩ := mkU_get hok huz
  have hlay := hok.lay
  have hv2 := hlay.v2
  have hzl := hlay.sz
  have hlenP : (pusU l.big 0 0 0 0 (mkU l sp us)).length = us.length := by rw [pusU_length]; exact hR.len
  have h4 := hR.n4
  obtain ⟨pre, post, hb, hpl, hD⟩ := die_at (big := l.big) hR.uni hm hR.inf hR.str hR.lin hx ht
  have hoa := off_at (hR.uni _ (List.mem_of_getElem? hm)).toUniT hm ho
  have hTz := ptop_at hok hR hxz huz
  have hT := ptop_at hok hR hxs hu0
  refine rangesAt_ok (rt := rtOf l sp) (k := k) (pre := pre) (post := post) (a := abbE i x) (its := itsAt l.big (mkU l sp us) k (uniS l xs (bgn l + (lstsT l (sp.take k)).length) u0) i x) (u := puAt l.big (mkU l sp us) k (uniS l xs (bgn l + (lstsT l (sp.take k)).length) u0))
    hG hS hR.ok pusU_pair hR.ab hR.inf (by omega) (by simp) hR.rg hR.str hR.lin hR.rl (puAt_get hmz) hTz (puAt_get hm) (by rw [← baseU_eq]; exact hT) hb (by rw [hoa, hpl]) (by rw [← baseU_eq]; exact hD) hRS hrn ?_ rfl hzl ?_
  · show ((l.vers.toNat : Nat) : Int) = l.vers
    omega
  · by_cases h : 4 < l.vers
    · rw [if_pos h, if_pos h]
      refine .inl ⟨h, ?_, ?_⟩
      · unfold rtOf; rw [if_pos h]
      · unfold rtOf; rw [if_pos h]
        intro e
        have := congrArg List.length e
        rw [headT_len] at this; simp at this
    · rw [if_neg h, if_neg h]
      refine .inr ⟨by omega, ?_⟩
      unfold rtOf; rw [if_neg h]
theorem entN_len {Γ : Env} {v : Int} {base : Nat} {pl : List Nat} {nods : List Nod} {i : Nat} {c : List Value} (h : EntN Γ v base pl nods i c) : c.length = 4 := by
  obtain ⟨_, _, _, _, _, _, h⟩ := h; exact h.len
/-- What the offsets of what Spanned tells are. -/
theorem found_at {Γ : Env} {l : Lay} {sp : List Spn} {us : List Uni} {vf : Value} {k i : Nat} {xs : Spn} {u0 : Uni} {x : Nod} (hok : OkSpd l sp us) (hF : Arr Γ (FndC Γ l.big (mkU l sp us)) vf (List.range us.length))
   (hxs : sp[k]? = some xs) (hu0 : us[k]? = some u0) (hx : (uniS l xs (bgn l + (lstsT l (sp.take k)).length) u0).nods[i]? = some x) (ht : x.tag ≠ 0) :
   ∃ bf oF cf be oe ce off, vf = .slice (some ⟨bf, oF, none⟩) us.length cf ∧ Γ.cell bf (oF + ((k : Nat) : Int).toNat * 2 + 1) = some (.slice (some ⟨be, oe, none⟩) u0.nods.length ce) ∧ Γ.cell be (oe + ((i : Nat) : Int).toNat * 4) = some (.int .i64 ((off : Nat) : Int)) ∧
   (plU (uniS l xs (bgn l + (lstsT l (sp.take k)).length) u0) l.big (baseU l.big (mkU l sp us) k) (strT ((mkU l sp us).take k)).length (linT ((mkU l sp us).take k)).length)[i]? = some off := by
  obtain ⟨x', hx', hm⟩ := mkU_get hok hu0
  rw [hxs] at hx'; injection hx' with hx'; subst hx'
  have hk := (List.getElem?_eq_some_iff.1 hu0).1
  obtain ⟨a, cap, cells, rfl, hcap, hA, hL⟩ := hF
  rw [List.length_range] at hcap ⊢
  obtain ⟨bf, oF, c, rfl, ⟨u', ve, hu', rfl, hE⟩, hcf⟩ := elemA hA hL (fun _ _ h => h.len) (w := 2) (by decide) (show (List.range us.length)[k]? = some k by rw [List.getElem?_range hk])
  rw [hm] at hu'; injection hu' with hu'; subst hu'
  have hi := (List.getElem?_eq_some_iff.1 hx).1
  have hlen : (uniS l xs (bgn l + (lstsT l (sp.take k)).length) u0).nods.length = u0.nods.length := nodsS_length _ _ _ _
  obtain ⟨a2, cap2, cells2, rfl, hcap2, hA2, hL2⟩ := hE
  obtain ⟨be, oe, c2, rfl, ⟨y, off, nx, hy, ho, -, hI⟩, hce⟩ := elemA hA2 hL2 (fun _ _ h => entN_len h) (w := 4) (by decide) (show (List.range _)[i]? = some i by rw [List.getElem?_range hi])
  rw [hx] at hy; injection hy with hy; subst hy
  rcases hI with ⟨h0, -⟩ | ⟨-, vf2, cs2, rfl, -, -⟩
  · exact absurd h0 ht
  refine ⟨bf, oF, cap, be, oe, cap2, off, rfl, ?_, cellsAt_get hce 0 _ rfl, ho⟩
  have := cellsAt_get hcf 1 _ rfl
  rw [List.length_range, hlen] at this
  exact this
end Go.Proofs.YtdplhbmoidepgaaGreatDoor
