/- Values, fields and entries as the thin package tells them. Entries as they are told, and when two are the same. Answers that are heard; whether a span covers a place. Entries that end children: entry, Next, and what is told of them. Reader.SeekPC. The code of the error of an unknown place. -/
import Derived.Test.YtdplhbmoidepgaaGreatDoorQ1
import Derived.Test.YtdplhbmoidepgaaGreatDoorG2
import Derived.Test.YtdplhbmoidepgaaGreatDoorQ2
import Derived.LaidEql
namespace Go.Proofs.YtdplhbmoidepgaaGreatDoor
open Go Go.Sl
set_option maxRecDepth 10000
set_option maxHeartbeats 40000000

/-- A field that is told. -/
structure Fd where
  attr : Int
  cls : Int
  kind : Int
  n : Int
  s : ByteArray
  b : List UInt8
def FdC (Γ : Env) (x : Fd) (c : List Value) : Prop := ∃ vb, c = [.int .i64 x.attr, .int .i64 x.cls, .int .i64 x.kind, .int .u64 x.n, .string x.s, vb] ∧ Byt Γ vb x.b
theorem FdC.len {Γ : Env} {x : Fd} {c : List Value} (h : FdC Γ x c) : c.length = 6 := by obtain ⟨vb, rfl, -⟩ := h; rfl
theorem FdC.mono {Γ Γ' : Env} (hle : Γ.le Γ') {x : Fd} {c : List Value} (h : FdC Γ x c) : FdC Γ' x c := by obtain ⟨vb, h1, h2⟩ := h; exact ⟨vb, h1, h2.mono hle⟩
abbrev fsN : ByteArray := ⟨#[]⟩
/-- What is told of a value. -/
def fdOf (attr cls : Int) : FV → Fd
  | .u n => ⟨attr, cls, 1, n, fsN, []⟩
  | .i z => ⟨attr, cls, 2, IntKind.u64.wrap z, fsN, []⟩
  | .b b => ⟨attr, cls, 3, if b then 1 else 0, fsN, []⟩
  | .s t => ⟨attr, cls, 4, 0, t, []⟩
  | .bs l => ⟨attr, cls, 5, 0, fsN, l⟩
  | .o n => ⟨attr, cls, 6, n, fsN, []⟩
theorem Byt.nil {Γ : Env} : Byt Γ nilS [] := ⟨none, 0, rfl, Nat.le_refl _, fun i x h => by simp at h⟩
/-- The cells of a value that is told. -/
def ValT (Γ : Env) (x : Fd) (c : List Value) : Prop := ∃ vb, c = [.int .i64 x.cls, .int .i64 x.kind, .int .u64 x.n, .string x.s, vb] ∧ Byt Γ vb x.b
theorem implValueOf_ok {Γ : Env} {H : List Blk} {fv : FV} {v : Value} (h : FVal Γ fv v) (attr c : Int) (hb : ∀ l, fv = .bs l → l.length < 2147483648) (ho : ∀ n, fv = .o n → n < 4294967296) :
   Spc Tryz.prog 97 #[v, .int .i64 c] Γ H (fun r Γ' H' => ∃ cs, r = .agg cs.toArray ∧ ValT Γ' (fdOf attr c fv) cs ∧ H' = H) := by
  refine Spc.body2 Tryz.func97 rfl Tryz.ntmps97 rfl ?_
  refine WC.seq ?_
  refine WC.region ?_
  (refine WL.alloc tab_ok rfl rfl ?_; intro b4)
  refine gz_ ?_
  (refine WL.alloc tab_ok rfl rfl ?_; intro b5)
  refine gz_ ?_
  cases fv with
  | u n =>
    cases h
    refine gz_ ?_
    refine WE.re (H2 := (b4, cel [.int .i64 c, .int .i64 1, .int .u64 (n : Int), noStr, nilS] 117) :: H) sn_ ?_
    exact end_c tab_ok rfl rfl rfl rfl Pick.here rfl (Env.le.rfl' _) ⟨_, rfl, ⟨_, rfl, Byt.nil⟩, rfl⟩
  | i z =>
    cases h
    refine gz_ ?_
    refine WE.re (H2 := (b4, cel [.int .i64 c, .int .i64 2, .int .u64 (IntKind.u64.wrap z), noStr, nilS] 117) :: H) sn_ ?_
    exact end_c tab_ok rfl rfl rfl rfl Pick.here rfl (Env.le.rfl' _) ⟨_, rfl, ⟨_, rfl, Byt.nil⟩, rfl⟩
  | b b =>
    cases h
    cases b with
    | true =>
      refine gz_ ?_
      refine WE.re (H2 := (b4, cel [.int .i64 c, .int .i64 3, .int .u64 1, noStr, nilS] 117) :: H) sn_ ?_
      exact end_c tab_ok rfl rfl rfl rfl Pick.here rfl (Env.le.rfl' _) ⟨_, rfl, ⟨_, rfl, Byt.nil⟩, rfl⟩
    | false =>
      refine gz_ ?_
      refine WE.re (H2 := (b4, cel [.int .i64 c, .int .i64 3, .int .u64 0, noStr, nilS] 117) :: H) sn_ ?_
      exact end_c tab_ok rfl rfl rfl rfl Pick.here rfl (Env.le.rfl' _) ⟨_, rfl, ⟨_, rfl, Byt.nil⟩, rfl⟩
  | s t =>
    cases h
    refine gz_ ?_
    refine WE.re (H2 := (b4, cel [.int .i64 c, .int .i64 4, .int .u64 0, .string t, nilS] 117) :: H) sn_ ?_
    exact end_c tab_ok rfl rfl rfl rfl Pick.here rfl (Env.le.rfl' _) ⟨_, rfl, ⟨_, rfl, Byt.nil⟩, rfl⟩
  | bs l =>
    obtain ⟨w, rfl, hB⟩ := h
    have hl := hb l rfl
    have hB0 := hB
    obtain ⟨ab, cb, rfl, -, -⟩ := hB0
    refine gz_ ?_
    refine WL.append (v := .slice none 0 0) tab_ok rfl rfl rfl rfl rfl rfl rfl rfl Ow.nil (Hs := []) (Tk.here (Hs := [])) (hB.src tab_ok rfl) (by omega) (by omega) (fun v' Hs' ho => ?_)
    rw [List.nil_append, Nat.zero_add] at ho
    refine WL.keep ho Tk.here (fun Γ' hle him => ?_)
    have hB2 := him.byt
    have hB3 := hB2
    obtain ⟨ab', cb', rfl, -, -⟩ := hB3
    refine gz_ ?_
    refine WE.re (H2 := (b4, cel [.int .i64 c, .int .i64 5, .int .u64 0, noStr, .slice ab' l.length cb'] 117) :: H) sn_ ?_
    exact end_c tab_ok rfl rfl rfl rfl Pick.here rfl hle ⟨_, rfl, ⟨_, rfl, hB2⟩, rfl⟩
  | o n =>
    have hn := ho n rfl
    cases h
    refine gz_ ?_
    rw [show IntKind.u64.wrap (n : Int) = (n : Int) from w_u64 (by omega) (by omega)]
    refine gz_ ?_
    refine WE.re (H2 := (b4, cel [.int .i64 c, .int .i64 6, .int .u64 (n : Int), noStr, nilS] 117) :: H) sn_ ?_
    exact end_c tab_ok rfl rfl rfl rfl Pick.here rfl (Env.le.rfl' _) ⟨_, rfl, ⟨_, rfl, Byt.nil⟩, rfl⟩
/-- What is told of an item. -/
def fdI (vers : Int) (x : Itm) : Fd := fdOf x.attr (formClass x.form x.attr vers) x.fv
theorem ValT.shape {Γ : Env} {x : Fd} {c : List Value} (h : ValT Γ x c) : ∃ z1 z2 z3 s a n k, c = [.int .i64 z1, .int .i64 z2, .int .u64 z3, .string s, .slice a n k] := by
  obtain ⟨vb, rfl, a, k, rfl, -, -⟩ := h; exact ⟨_, _, _, _, _, _, _, rfl⟩
theorem one_fd (z1 z2 z3 z4 : Int) (st : ByteArray) (a2 : Option Addr) (n2 c2 : Nat) : ∀ y ∈ [Value.int .i64 z1, .int .i64 z2, .int .i64 z3, .int .u64 z4, .string st, .slice a2 n2 c2], y.oneCell' = true := by
  intro y hy; simp only [List.mem_cons, List.not_mem_nil, or_false] at hy
  rcases hy with rfl | rfl | rfl | rfl | rfl | rfl <;> rfl
theorem fdOf_attr (a c : Int) (fv : FV) : (fdOf a c fv).attr = a := by cases fv <;> rfl
theorem valT_fd {Γ : Env} {vers : Int} {x : Itm} {c : List Value} (h : ValT Γ (fdOf (x.attr : Int) (formClass x.form x.attr vers) x.fv) c) : FdC Γ (fdI vers x) (.int .i64 (x.attr : Int) :: c) := by
  obtain ⟨vb, rfl, hB⟩ := h
  exact ⟨vb, by rw [show (fdI vers x).attr = (x.attr : Int) from fdOf_attr _ _ _]; rfl, hB⟩
theorem fieldsOf_ok {Γ : Env} {H : List Blk} {its : List Itm} {vers : Int} {pf : Nat} {cs : List Value} {T : TypeId} (h : FCs Γ vers its cs) (hc : Γ.imm pf = some (cel cs T)) (hn : its.length < 1048576)
   (hb : ∀ x ∈ its, ∀ l, x.fv = .bs l → l.length < 2147483648) (ho : ∀ x ∈ its, ∀ n, x.fv = .o n → n < 4294967296) (ha : ∀ x ∈ its, x.attr < 4294967296) :
   Spc Tryz.prog 72 #[.slice (some ⟨pf, 0, none⟩) its.length its.length] Γ H (fun r Γ' H' => ∃ ces, Im Γ' r its.length ces ∧ LisC (FdC Γ') (its.map (fdI vers)) ces ∧ H' = H) := by
  refine Spc.body1 Tryz.func72 rfl Tryz.ntmps72 rfl ?_
  refine gz_ ?_
  refine WC.loopE (fun m R' Γ' H' => ∃ i v out Hs, R' = [(3, v), (7, .int .i64 (its.length : Int)), (6, .slice (some ⟨pf, 0, none⟩) its.length its.length), (8, .int .i64 ((i : Nat) : Int))] ∧ Γ.le Γ' ∧ H' = Hs ++ H ∧ m = its.length - i ∧ i ≤ its.length ∧
      Ow 6 v i out Hs ∧ LisC (FdC Γ') ((its.take i).map (fdI vers)) out)
    ⟨0, _, [], [], rfl, Env.le.rfl' _, rfl, rfl, Nat.zero_le _, Ow.nil, rfl⟩ sr_ sn_ ?_
  rintro m R' Γ1 H' ⟨i, v, out, Hs, rfl, hle, rfl, rfl, hi, how, hL⟩
  rcases Nat.lt_or_ge i its.length with hlt | hge
  case inr =>
    have ei : i = its.length := by omega
    subst ei
    refine gz_ ?_
    refine WC.condF rfl (decide_eq_false (by omega)) ?_
    refine gz_ ?_
    rw [List.take_length] at hL
    refine WE.keep how tk_ (fun Γ2 hle2 him => ?_)
    exact end_1 rfl rfl (hle.trans hle2) ⟨out, him, hL.imp fun _ _ h => h.mono hle2, rfl⟩
  case inl =>
    obtain ⟨x, hx⟩ : ∃ x, its[i]? = some x := ⟨_, List.getElem?_eq_getElem hlt⟩
    obtain ⟨p, c, q, g1, g2, t, w, rfl, g4⟩ := h.get hx
    have hcell : ∀ k v, [Value.int .u32 (x.attr : Int), .iface t w, .int .i64 (formClass x.form x.attr vers)][k]? = some v → Γ1.cell pf (0 + ((i : Nat) : Int).toNat * 3 + k) = some v := fun k v hk => by
      have hlt := (List.getElem?_eq_some_iff.1 hk).1
      simp only [Env.cell, hle.imm _ _ hc, g1]
      rw [Int.toNat_natCast, ← g2]
      rw [List.getElem?_toArray, List.getElem?_append_right (by omega), show 0 + p.length + k - p.length = k by omega, List.getElem?_append_left hlt]; exact hk
    have hax := ha x (List.mem_of_getElem? hx)
    have hwi : IntKind.i64.wrap ((i : Int) + 1) = (i : Int) + 1 := w_i64 (by omega) (by omega)
    refine gz_ ?_
    refine WC.condT rfl (by first | rfl | exact decide_eq_true (by omega) | (simp; (first | done | fail)) | (simp; omega)) ?_
    refine gz_ ?_
    refine WL.ldRA (l := [.int .u32 (x.attr : Int), .iface t w, .int .i64 (formClass x.form x.attr vers)]) tab_ok rfl rfl rfl (fun k v hk => .inl (hcell k v hk)) rfl rfl ?_
    refine gz_ ?_
    (refine WL.alloc tab_ok rfl rfl ?_; intro b5)
    refine gz_ ?_
    refine WC.draw 13 (.take 0 (.take 1 (.take 2 (.take 3 (.take 4 (.take 5 (.take 6 (.take 7 (.one 8 (.take 9 (.one 10 (.one 11 (.one 12 .done))))))))))))) ((b5, _) :: []) mixed (by (repeat (first | exact trivial | refine ⟨⟨_, pk_⟩, ?_⟩ | exact subH_self _ | apply subH_cons)); (first | done | fail)) (by decide +kernel) ?_
    refine dz_ ?_
    refine WL.call rfl Tryz.call97 rfl rfl (by exact (implValueOf_ok (fv := x.fv) (g4.mono hle) x.attr (formClass x.form x.attr vers) (hb x (List.mem_of_getElem? hx)) (ho x (List.mem_of_getElem? hx)))) ?_
    rintro _ Γ2 _ hle2 ⟨cs, rfl, hV, rfl⟩
    obtain ⟨z1, z2, z3, s1, a1, n1, k1, rfl⟩ := ValT.shape hV
    refine dz_ ?_
    have hwa : IntKind.i64.wrap (x.attr : Int) = (x.attr : Int) := w_i64 (by omega) (by omega)
    rw [hwa]
    (refine WL.lit tab_ok rfl rfl rfl rfl rfl rfl rfl spi_ rfl ?_; intro bl)
    refine dz_ ?_
    refine WL.append tab_ok rfl rfl rfl rfl rfl rfl rfl rfl how tk_ ((Ow.lit (s := 6) (b := bl) (k := 1) (l := [.int .i64 (x.attr : Int), .int .i64 z1, .int .i64 z2, .int .u64 z3, .string s1, .slice a1 n1 k1]) (T := 119) rfl).src tab_ok rfl (by ((repeat (first | apply Tk.one | apply Tk.skip | apply Tk.over)); (first | done | fail))) (one_fd _ _ _ _ _ _ _ _)) (by omega) (by omega) (fun v2 Hs2 how2 => ?_)
    obtain ⟨a9, c9, rfl⟩ := Ow.shape how2
    refine dz_ ?_
    refine gz_ ?_
    have htk : (its.take (i + 1)).map (fdI vers) = (its.take i).map (fdI vers) ++ [fdI vers x] := by rw [List.take_add_one, hx]; simp
    refine WE.again ⟨i + 1, _, out ++ [.int .i64 (x.attr : Int), .int .i64 z1, .int .i64 z2, .int .u64 z3, .string s1, .slice a1 n1 k1], Hs2, rfl, hle.trans hle2, rfl, rfl, hlt, how2, ?_⟩ (by omega) ⟨rfl, rfl, rfl, congrArg (fun z => some (Value.int .i64 z)) hwi, trivial⟩ sn_
    rw [htk]
    exact (hL.imp fun _ _ h => h.mono hle2).append (LisC.one (valT_fd hV))
end Go.Proofs.YtdplhbmoidepgaaGreatDoor
namespace Go.Proofs.YtdplhbmoidepgaaGreatDoor
open Go Go.Sl
set_option maxRecDepth 10000
set_option maxHeartbeats 40000000

/-- An entry that is told. -/
structure En where
  off : Int
  tag : Int
  ch : Bool
  fds : List Fd
def EnC (Γ : Env) (x : En) (c : List Value) : Prop := ∃ vf, c = [.int .i64 x.off, .int .i64 x.tag, .bool x.ch, vf] ∧ Arr Γ (FdC Γ) vf x.fds
theorem EnC.len {Γ : Env} {x : En} {c : List Value} (h : EnC Γ x c) : c.length = 4 := by obtain ⟨vf, rfl, -⟩ := h; rfl
theorem EnC.mono {Γ Γ' : Env} (hle : Γ.le Γ') {x : En} {c : List Value} (h : EnC Γ x c) : EnC Γ' x c := by
  obtain ⟨vf, h1, h2⟩ := h; exact ⟨vf, h1, h2.mono hle fun _ _ h => h.mono hle⟩
theorem entryOf_ok {Γ : Env} {H : List Blk} {pe off tag : Nat} {ch : Bool} {its : List Itm} {vers : Int} (hE : EntR Γ pe off tag ch its vers) (hn : its.length < 1048576)
   (hb : ∀ x ∈ its, ∀ l, x.fv = .bs l → l.length < 2147483648) (ho : ∀ x ∈ its, ∀ n, x.fv = .o n → n < 4294967296) (ha : ∀ x ∈ its, x.attr < 4294967296) (hoff : off < 4294967296) (htag : tag < 4294967296) :
   Spc Tryz.prog 39 #[.pointer (some ⟨pe, 0, none⟩)] Γ H (fun r Γ' H' => ∃ cs, r = .agg cs.toArray ∧ EnC Γ' ⟨off, tag, ch, its.map (fdI vers)⟩ cs ∧ H' = H) := by
  obtain ⟨h0, h1, h2, pf, cs, T, h3, h4, h5⟩ := hE
  have h1' : Γ.cell pe (0 + 1) = _ := h1
  have h2' : Γ.cell pe (0 + 2) = _ := h2
  have h3' : Γ.cell pe (0 + 3) = _ := h3
  refine Spc.body1 Tryz.func39 rfl Tryz.ntmps39 rfl ?_
  refine WC.seq ?_
  refine WC.region ?_
  (refine WL.alloc tab_ok rfl rfl ?_; intro b2)
  refine gz_ ?_
  refine WC.draw 20 (.take 0 (.take 1 (.take 2 (.take 3 (.take 4 (.take 5 (.take 6 (.take 7 (.take 8 (.take 9 (.take 10 (.take 11 (.take 12 (.take 13 (.take 14 (.take 15 (.take 16 (.take 17 (.one 18 (.take 19 (.one 20 .done))))))))))))))))))))) ((b2, _) :: []) mixed (by (repeat (first | exact trivial | refine ⟨⟨_, pk_⟩, ?_⟩ | exact subH_self _ | apply subH_cons)); (first | done | fail)) (by decide +kernel) ?_
  refine dz_ ?_
  refine WL.call rfl Tryz.call72 rfl rfl (by exact (fieldsOf_ok h5 h4 hn hb ho ha)) ?_
  rintro _ Γ2 _ hle2 ⟨ces, him, hL, rfl⟩
  have him0 := him
  obtain ⟨af, cf, rfl, hcf, hA⟩ := him
  refine dz_ ?_
  rw [show IntKind.i64.wrap (off : Int) = (off : Int) from w_i64 (by omega) (by omega), show IntKind.i64.wrap (tag : Int) = (tag : Int) from w_i64 (by omega) (by omega)]
  refine dz_ ?_
  refine gz_ ?_
  exact end_c tab_ok rfl rfl rfl rfl Pick.here rfl hle2 ⟨_, rfl, ⟨_, rfl, af, cf, ces, by rw [List.length_map], by rw [List.length_map]; exact hcf, hA, hL⟩, rfl⟩
theorem sameValue_ok {Γ : Env} {H : List Blk} {f : Fd} {c1 c2 : List Value} (h1 : ValT Γ f c1) (h2 : ValT Γ f c2) :
   Spc Tryz.prog 40 #[.agg c1.toArray, .agg c2.toArray] Γ H (fun r Γ' H' => Γ = Γ' ∧ H = H' ∧ r = .bool true) := by
  obtain ⟨v1, rfl, hB1⟩ := h1
  obtain ⟨v2, rfl, hB2⟩ := h2
  have g1 := hB1
  have g2 := hB2
  obtain ⟨ab1, cb1, rfl, -, -⟩ := g1
  obtain ⟨ab2, cb2, rfl, -, -⟩ := g2
  refine Spc.body2 Tryz.func40 rfl Tryz.ntmps40 rfl ?_
  refine WC.seq ?_
  refine WC.region ?_
  (refine WL.box rfl spi_ rfl ?_; intro b2)
  (refine WL.box rfl spi_ rfl ?_; intro b3)
  refine gz_ ?_
  rw [show (f.cls == f.cls) = true from beq_self_eq_true _]
  refine gz_ ?_
  rw [show (f.kind == f.kind) = true from beq_self_eq_true _]
  refine gz_ ?_
  rw [show (f.n == f.n) = true from beq_self_eq_true _]
  refine gz_ ?_
  rw [show (f.s.toList == f.s.toList) = true from beq_self_eq_true _]
  refine gz_ ?_
  refine WL.b2s tab_ok rfl rfl rfl rfl hB1 rfl ?_
  refine gz_ ?_
  refine WL.b2s tab_ok rfl rfl rfl rfl hB2 rfl ?_
  refine gz_ ?_
  rw [show ((⟨f.b.toArray⟩ : ByteArray).toList == (⟨f.b.toArray⟩ : ByteArray).toList) = true from beq_self_eq_true _]
  refine gz_ ?_
  refine WE.drop (b := b2) pk_ ?_
  refine WE.drop (b := b3) pk_ ?_
  exact end_1 rfl rfl (Env.le.rfl' _) ⟨rfl, rfl, rfl⟩
/-- When two entries that are told are held to be the same. -/
def Same (x y : En) : Prop := (x.tag = 0 ∧ y.tag = 0 ∧ x.ch = false ∧ y.ch = false) ∨
  (x.tag ≠ 0 ∧ x.off = y.off ∧ x.tag = y.tag ∧ x.ch = y.ch ∧ x.fds.length = y.fds.length ∧ ∀ (i : Nat) (f g : Fd), x.fds[i]? = some f → y.fds[i]? = some g → f.attr = g.attr ∧ (x.tag ≠ 17 → f = g))
theorem FdC.valT {Γ : Env} {x : Fd} {c : List Value} (h : FdC Γ x c) : ∃ c', c = .int .i64 x.attr :: c' ∧ ValT Γ x c' := by
  obtain ⟨vb, rfl, hB⟩ := h; exact ⟨_, rfl, vb, rfl, hB⟩
theorem sameEntry_ok {Γ : Env} {H : List Blk} {x y : En} {c1 c2 : List Value} (h1 : EnC Γ x c1) (h2 : EnC Γ y c2) (hS : Same x y) (hn : x.fds.length ≤ 2147483647) :
   Spc Tryz.prog 18 #[.agg c1.toArray, .agg c2.toArray] Γ H (fun r Γ' H' => Γ = Γ' ∧ H = H' ∧ r = .bool true) := by
  obtain ⟨v1, rfl, a1, cap1, cells1, rfl, hcap1, hA1, hL1⟩ := h1
  obtain ⟨v2, rfl, a2, cap2, cells2, rfl, hcap2, hA2, hL2⟩ := h2
  refine Spc.body2 Tryz.func18 rfl Tryz.ntmps18 rfl ?_
  refine WC.seq ?_
  refine WC.region ?_
  (refine WL.box rfl spi_ rfl ?_; intro b2)
  (refine WL.box rfl spi_ rfl ?_; intro b3)
  refine gz_ ?_
  rcases hS with ⟨e1, e2, e3, e4⟩ | ⟨e0, e1, e2, e3, e4, e5⟩
  · rw [e1, e2, e3, e4]
    refine gz_ ?_
    refine WE.drop (b := b2) pk_ ?_
    refine WE.drop (b := b3) pk_ ?_
    exact end_1 rfl rfl (Env.le.rfl' _) ⟨rfl, rfl, rfl⟩
  · rw [show (x.tag == 0) = false from beq_eq_false_iff_ne.2 e0]
    refine gz_ ?_
    rw [← e1, ← e2, ← e3, ← e4]
    rw [show (x.off != x.off) = false from by simp]
    refine gz_ ?_
    rw [show (x.tag != x.tag) = false from by simp]
    refine gz_ ?_
    rw [show (!(x.ch == x.ch)) = false from by simp]
    refine gz_ ?_
    rw [show ((x.fds.length : Int) != (x.fds.length : Int)) = false from by simp]
    refine gz_ ?_
    refine WC.loopE (fun m R' Γ' H' => ∃ i, R' = [(2, .pointer (some ⟨b2, 0, none⟩)), (3, .pointer (some ⟨b3, 0, none⟩)), (52, .int .i64 (x.fds.length : Int)), (53, .int .i64 ((i : Nat) : Int))] ∧ Γ = Γ' ∧
      H' = (b3, cel [.int .i64 x.off, .int .i64 x.tag, .bool x.ch, .slice a2 x.fds.length cap2] 45) :: (b2, cel [.int .i64 x.off, .int .i64 x.tag, .bool x.ch, .slice a1 x.fds.length cap1] 45) :: H ∧ m = x.fds.length - i ∧ i ≤ x.fds.length)
      ⟨0, rfl, rfl, rfl, rfl, Nat.zero_le _⟩ sr_ sn_ ?_
    rintro m R' Γ' H' ⟨i, rfl, rfl, rfl, rfl, hi⟩
    rcases Nat.lt_or_ge i x.fds.length with hlt | hge
    case inr =>
      have ei : i = x.fds.length := by omega
      subst ei
      refine gz_ ?_
      refine WC.condF rfl (decide_eq_false (by omega)) ?_
      refine gz_ ?_
      refine WE.drop (b := b2) pk_ ?_
      refine WE.drop (b := b3) pk_ ?_
      exact end_1 rfl rfl (Env.le.rfl' _) ⟨rfl, rfl, rfl⟩
    case inl =>
      obtain ⟨f, hf⟩ : ∃ y, x.fds[i]? = some y := ⟨_, List.getElem?_eq_getElem hlt⟩
      obtain ⟨g, hg⟩ : ∃ z, y.fds[i]? = some z := ⟨_, List.getElem?_eq_getElem (by omega)⟩
      obtain ⟨hfg, hfg2⟩ := e5 i f g hf hg
      obtain ⟨o1, p1, d1, rfl, hP1, hc1⟩ := elemA hA1 hL1 (fun _ _ h => h.len) (w := 6) (by decide) hf
      obtain ⟨o2, p2, d2, rfl, hP2, hc2⟩ := elemA hA2 hL2 (fun _ _ h => h.len) (w := 6) (by decide) hg
      obtain ⟨q1, rfl, hV1⟩ := hP1.valT
      obtain ⟨q2, rfl, hV2⟩ := hP2.valT
      have k1 : Γ.cell o1 (p1 + Int.toNat ((i : Nat) : Int) * 6) = some (.int .i64 f.attr) := cellsAt_get hc1 0 _ rfl
      have k2 : Γ.cell o2 (p2 + Int.toNat ((i : Nat) : Int) * 6) = some (.int .i64 g.attr) := cellsAt_get hc2 0 _ rfl
      have hwi : IntKind.i64.wrap ((i : Int) + 1) = (i : Int) + 1 := w_i64 (by omega) (by omega)
      refine gz_ ?_
      refine WC.condT rfl (by first | rfl | exact decide_eq_true (by omega) | (simp; (first | done | fail)) | (simp; omega)) ?_
      refine gz_ ?_
      refine WC.draw 13 (.take 0 (.take 1 (.take 2 (.take 3 (.take 4 (.take 5 (.take 6 (.take 7 (.take 8 (.take 9 (.take 10 (.take 11 (.take 12 .done))))))))))))) ((b2, _) :: (b3, _) :: []) mixed (by (repeat (first | exact trivial | refine ⟨⟨_, pk_⟩, ?_⟩ | exact subH_self _ | apply subH_cons)); (first | done | fail)) (by decide +kernel) ?_
      refine dz_ ?_
      rw [← hfg, show (f.attr != f.attr) = false from by simp]
      refine gz_ ?_
      by_cases h17 : x.tag = 17
      · have t17 : (x.tag != 17) = false := by rw [h17]; rfl
        refine WC.draw 19 (.take 0 (.take 1 (.take 2 (.take 3 (.take 4 (.take 5 (.take 6 (.take 7 (.take 8 (.take 9 (.take 10 (.take 11 (.take 12 (.take 13 (.take 14 (.take 15 (.one 16 (.take 17 (.take 18 .done))))))))))))))))))) ((b2, _) :: (b3, _) :: []) mixed (by (repeat (first | exact trivial | refine ⟨⟨_, pk_⟩, ?_⟩ | exact subH_self _ | apply subH_cons)); (first | done | fail)) (by decide +kernel) ?_
        refine dz_ ?_
        rw [t17]
        refine dz_ ?_
        refine gz_ ?_
        exact WE.again ⟨i + 1, rfl, rfl, rfl, rfl, hlt⟩ (by omega) ⟨rfl, rfl, rfl, congrArg (fun z => some (Value.int .i64 z)) hwi, trivial⟩ sn_
      · have t17 : (x.tag != 17) = true := bne_iff_ne.2 h17
        have hgf := hfg2 h17
        subst hgf
        have hd1 : cellsAt (Γ.cell o1) (p1 + Int.toNat ((i : Nat) : Int) * 6 + 1) q1 := hc1.2
        have hd2 : cellsAt (Γ.cell o2) (p2 + Int.toNat ((i : Nat) : Int) * 6 + 1) q2 := hc2.2
        obtain ⟨z1, z2, z3, s1, w1, n1, k1', rfl⟩ := ValT.shape hV1
        obtain ⟨y1, y2, y3, s2, w2, n2, k2', rfl⟩ := ValT.shape hV2
        refine WC.draw 19 (.take 0 (.take 1 (.take 2 (.take 3 (.take 4 (.take 5 (.take 6 (.take 7 (.take 8 (.take 9 (.take 10 (.take 11 (.take 12 (.take 13 (.take 14 (.take 15 (.one 16 (.take 17 (.take 18 .done))))))))))))))))))) ((b2, _) :: (b3, _) :: []) mixed (by (repeat (first | exact trivial | refine ⟨⟨_, pk_⟩, ?_⟩ | exact subH_self _ | apply subH_cons)); (first | done | fail)) (by decide +kernel) ?_
        refine dz_ ?_
        rw [t17]
        refine dz_ ?_
        refine WL.call rfl Tryz.call40 rfl rfl (by exact (sameValue_ok hV1 hV2)) ?_
        rintro _ _ _ - ⟨rfl, rfl, rfl⟩
        refine dz_ ?_
        refine gz_ ?_
        exact WE.again ⟨i + 1, rfl, rfl, rfl, rfl, hlt⟩ (by omega) ⟨rfl, rfl, rfl, congrArg (fun z => some (Value.int .i64 z)) hwi, trivial⟩ sn_
end Go.Proofs.YtdplhbmoidepgaaGreatDoor
namespace Go.Proofs.YtdplhbmoidepgaaGreatDoor
open Go Go.Sl
set_option maxRecDepth 10000
set_option maxHeartbeats 40000000

/-- An answer that tells an entry. -/
def AnC (Γ : Env) (x : En) (c : List Value) : Prop := ∃ ce, EnC Γ x ce ∧ c = .bool true :: (ce ++ [.int .i64 0, .int .i64 0])
theorem AnC.len {Γ : Env} {x : En} {c : List Value} (h : AnC Γ x c) : c.length = 7 := by obtain ⟨ce, h1, rfl⟩ := h; simp [h1.len]
theorem AnC.mono {Γ Γ' : Env} (hle : Γ.le Γ') {x : En} {c : List Value} (h : AnC Γ x c) : AnC Γ' x c := by
  obtain ⟨ce, h1, h2⟩ := h; exact ⟨ce, h1.mono hle, h2⟩
theorem heard_ok {Γ : Env} {H : List Blk} {v1 v2 : Value} {xs ys : List En} (h1 : Arr Γ (AnC Γ) v1 xs) (h2 : Arr Γ (EnC Γ) v2 ys) (hl : xs.length = ys.length) (hn : ys.length ≤ 2147483647)
   (hS : ∀ (i : Nat) (x y : En), xs[i]? = some x → ys[i]? = some y → Same x y ∧ x.fds.length ≤ 2147483647) :
   Spc Tryz.prog 19 #[v1, v2] Γ H (fun r Γ' H' => Γ = Γ' ∧ H = H' ∧ r = .bool true) := by
  obtain ⟨a1, cap1, cells1, rfl, hcap1, hA1, hL1⟩ := h1
  obtain ⟨a2, cap2, cells2, rfl, hcap2, hA2, hL2⟩ := h2
  refine Spc.body2 Tryz.func19 rfl Tryz.ntmps19 rfl ?_
  rw [hl]
  refine gz_ ?_
  rw [show ((ys.length : Int) != (ys.length : Int)) = false from by simp]
  refine gz_ ?_
  refine WC.loopE (fun m R' Γ' H' => ∃ i, R' = [(0, .slice a1 ys.length cap1), (12, .slice a2 ys.length cap2), (13, .int .i64 (ys.length : Int)), (14, .int .i64 ((i : Nat) : Int))] ∧ Γ = Γ' ∧
      H = H' ∧ m = ys.length - i ∧ i ≤ ys.length)
    ⟨0, rfl, rfl, rfl, rfl, Nat.zero_le _⟩ sr_ sn_ ?_
  rintro m R' Γ' H' ⟨i, rfl, rfl, rfl, rfl, hi⟩
  rcases Nat.lt_or_ge i ys.length with hlt | hge
  case inr =>
    have ei : i = ys.length := by omega
    subst ei
    refine gz_ ?_
    refine WC.condF rfl (decide_eq_false (by omega)) ?_
    refine gz_ ?_
    exact end_1 rfl rfl (Env.le.rfl' _) ⟨rfl, rfl, rfl⟩
  case inl =>
    obtain ⟨x, hx⟩ : ∃ y, xs[i]? = some y := ⟨_, List.getElem?_eq_getElem (by omega)⟩
    obtain ⟨y, hy⟩ : ∃ z, ys[i]? = some z := ⟨_, List.getElem?_eq_getElem hlt⟩
    obtain ⟨hSa, hfl⟩ := hS i x y hx hy
    obtain ⟨o1, p1, d1, rfl, ⟨ce, hE1, rfl⟩, hc1⟩ := elemA hA1 hL1 (fun _ _ h => h.len) (w := 7) (by decide) hx
    obtain ⟨o2, p2, d2, rfl, hE2, hc2⟩ := elemA hA2 hL2 (fun _ _ h => h.len) (w := 4) (by decide) hy
    have hE1' := hE1
    have hE2' := hE2
    obtain ⟨w1, rfl, b1, k1, cc1, rfl, -, -, -⟩ := hE1'
    obtain ⟨w2, rfl, b2, k2, cc2, rfl, -, -, -⟩ := hE2'
    have g0 : Γ.cell o1 (p1 + Int.toNat ((i : Nat) : Int) * 7) = some (.bool true) := cellsAt_get hc1 0 _ rfl
    have g6 : Γ.cell o1 (p1 + Int.toNat ((i : Nat) : Int) * 7 + 6) = some (.int .i64 0) := cellsAt_get hc1 6 _ rfl
    have gE : cellsAt (Γ.cell o1) (p1 + Int.toNat ((i : Nat) : Int) * 7 + 1) [.int .i64 x.off, .int .i64 x.tag, .bool x.ch, .slice b1 x.fds.length k1] := ⟨hc1.2.1, hc1.2.2.1, hc1.2.2.2.1, hc1.2.2.2.2.1, trivial⟩
    have hwi : IntKind.i64.wrap ((i : Int) + 1) = (i : Int) + 1 := w_i64 (by omega) (by omega)
    refine gz_ ?_
    refine WC.condT rfl (by first | rfl | exact decide_eq_true (by omega) | (simp; (first | done | fail)) | (simp; omega)) ?_
    refine gz_ ?_
    (refine WL.alloc tab_ok rfl rfl ?_; intro b6)
    refine gz_ ?_
    refine WC.draw 24 (.take 0 (.take 1 (.take 2 (.take 3 (.take 4 (.take 5 (.take 6 (.take 7 (.take 8 (.take 9 (.take 10 (.take 11 (.take 12 (.take 13 (.take 14 (.take 15 (.take 16 (.take 17 (.take 18 (.take 19 (.take 20 (.one 21 (.take 22 (.take 23 .done)))))))))))))))))))))))) ((b6, _) :: []) mixed (by (repeat (first | exact trivial | refine ⟨⟨_, pk_⟩, ?_⟩ | exact subH_self _ | apply subH_cons)); (first | done | fail)) (by decide +kernel) ?_
    refine dz_ ?_
    refine WL.call rfl Tryz.call18 rfl rfl (by exact (sameEntry_ok hE1 hE2 hSa hfl)) ?_
    rintro _ _ _ - ⟨rfl, rfl, rfl⟩
    refine dz_ ?_
    refine gz_ ?_
    exact WE.again ⟨i + 1, rfl, rfl, rfl, rfl, hlt⟩ (by omega) ⟨rfl, rfl, rfl, congrArg (fun z => some (Value.int .i64 z)) hwi, trivial⟩ sn_
theorem covers_ok {Γ : Env} {H : List Blk} {x : Spn} {c : List Value} {pc : Nat} (h : SpnC Γ x c) (hf : FitS x) (hn : (plcs x).length ≤ 2147483647) :
   Spc Tryz.prog 16 #[.agg c.toArray, .int .u64 (pc : Int)] Γ H (fun r Γ' H' => Γ.le Γ' ∧ H = H' ∧ r = .bool ((plcs x).any fun r => decide (r.1 ≤ pc) && decide (pc < r.2))) := by
  have h0 := h
  obtain ⟨vp, rfl, a0, cap0, cells0, rfl, hcap0, hA0, hL0⟩ := h
  refine Spc.body2 Tryz.func16 rfl Tryz.ntmps16 rfl ?_
  refine WC.seq ?_
  refine WC.region ?_
  (refine WL.box rfl spi_ rfl ?_; intro b2)
  refine gz_ ?_
  refine WL.call rfl Tryz.call15 rfl rfl (by exact (Places_ok h0 hf)) ?_
  rintro _ _ _ - ⟨rfl, Hs, how, rfl⟩
  refine WL.keep how tk_ (fun Γ1 hle him => ?_)
  obtain ⟨a1, cap1, cells1, rfl, hcap1, hA1, hL1⟩ := Im.pairs him
  refine gz_ ?_
  refine WC.loopE (fun m R' Γ' H' => ∃ i, R' = [(1, .int .u64 (pc : Int)), (8, .slice a1 (plcs x).length cap1), (9, .int .i64 ((plcs x).length : Int)), (10, .int .i64 ((i : Nat) : Int))] ∧ Γ1 = Γ' ∧
      H' = (b2, _) :: H ∧ m = (plcs x).length - i ∧ i ≤ (plcs x).length ∧ ((plcs x).any fun r => decide (r.1 ≤ pc) && decide (pc < r.2)) = (((plcs x).drop i).any fun r => decide (r.1 ≤ pc) && decide (pc < r.2)))
    ⟨0, rfl, rfl, rfl, rfl, Nat.zero_le _, rfl⟩ sr_ sn_ ?_
  rintro m R' Γ' H' ⟨i, rfl, rfl, rfl, rfl, hi, hany⟩
  rcases Nat.lt_or_ge i (plcs x).length with hlt | hge
  case inr =>
    have ei : i = (plcs x).length := by omega
    subst ei
    refine gz_ ?_
    refine WC.condF rfl (decide_eq_false (by omega)) ?_
    refine gz_ ?_
    refine WE.drop (b := b2) pk_ ?_
    rw [hany, List.drop_length]
    exact end_1 rfl rfl hle ⟨hle, rfl, rfl⟩
  case inl =>
    obtain ⟨⟨lo, hi'⟩, hx⟩ : ∃ y, (plcs x)[i]? = some y := ⟨_, List.getElem?_eq_getElem hlt⟩
    have hdr : (plcs x).drop i = (lo, hi') :: (plcs x).drop (i + 1) := by
      rw [List.drop_eq_getElem_cons hlt]
      rw [List.getElem?_eq_getElem hlt] at hx; injection hx with hx; rw [hx]
    rw [hdr, List.any_cons] at hany
    obtain ⟨o1, p1, d1, rfl, hP1, hc1⟩ := elemA hA1 hL1 (fun _ _ h => h.len) (w := 2) (by decide) hx
    unfold PairC at hP1
    subst hP1
    simp only at hc1
    have hwi : IntKind.i64.wrap ((i : Int) + 1) = (i : Int) + 1 := w_i64 (by omega) (by omega)
    refine gz_ ?_
    refine WC.condT rfl (by first | rfl | exact decide_eq_true (by omega) | (simp; (first | done | fail)) | (simp; omega)) ?_
    refine gz_ ?_
    (refine WL.alloc tab_ok rfl rfl ?_; intro b6)
    refine gz_ ?_
    refine WL.idxArr tab_ok rfl rfl rfl rfl (by omega) (by omega) rfl ?_
    refine gz_ ?_
    by_cases q1 : lo ≤ pc
    · rw [show decide ((lo : Int) ≤ (pc : Int)) = true from decide_eq_true (by omega)]
      refine gz_ ?_
      refine WL.idxArr tab_ok rfl rfl rfl rfl (by omega) (by omega) rfl ?_
      refine gz_ ?_
      by_cases q2 : pc < hi'
      · rw [show decide ((pc : Int) < (hi' : Int)) = true from decide_eq_true (by omega)]
        refine gz_ ?_
        refine WE.drop (b := b2) pk_ ?_
        refine WE.drop (b := b6) pk_ ?_
        refine end_1 rfl rfl hle ⟨hle, rfl, ?_⟩
        rw [hany]; simp [q1, q2]
      · rw [show decide ((pc : Int) < (hi' : Int)) = false from decide_eq_false (by omega)]
        refine gz_ ?_
        exact WE.again ⟨i + 1, rfl, rfl, rfl, rfl, hlt, by rw [hany]; simp [q2]⟩ (by omega) ⟨rfl, rfl, rfl, congrArg (fun z => some (Value.int .i64 z)) hwi, trivial⟩ sn_
    · rw [show decide ((lo : Int) ≤ (pc : Int)) = false from decide_eq_false (by omega)]
      refine gz_ ?_
      exact WE.again ⟨i + 1, rfl, rfl, rfl, rfl, hlt, by rw [hany]; simp [q1]⟩ (by omega) ⟨rfl, rfl, rfl, congrArg (fun z => some (Value.int .i64 z)) hwi, trivial⟩ sn_
end Go.Proofs.YtdplhbmoidepgaaGreatDoor
namespace Go.Proofs.YtdplhbmoidepgaaGreatDoor
open Go Go.Sl
set_option maxRecDepth 10000
set_option maxHeartbeats 40000000

/-- An entry of nothing. -/
structure NulR (Γ : Env) (pe : Nat) : Prop where
  off : Γ.cell pe 0 = some (.int .u32 0)
  tag : Γ.cell pe (0 + 1) = some (.int .u32 0)
  ch : Γ.cell pe (0 + 2) = some (.bool false)
  fld : Γ.cell pe (0 + 3) = some (.slice none 0 0)
theorem entryNul_ok {Γ : Env} {H F : List Blk} {p pd pu ou base r off : Nat} {vers : Int} {big : Bool} {nm d cu : Value} {post : List Value} {T : TypeId} {l : List UInt8}
   (hp : Pick H p (cel (bufc (.pointer (some ⟨pd, 0, none⟩)) (.bool big) (ufmt pu ou) nm off d .nilIface post) T) F)
   (hd : Byt Γ d (ulebL 0 ++ l)) (hu0 : Rd Γ F pu (ou + 0) (.int .u32 (base : Int))) (hu3 : Rd Γ F pu (ou + 3) (.map (some r))) (hu6 : Rd Γ F pu (ou + 6) (.int .i64 vers)) (hsz : off + 1 + l.length ≤ 2147483648) :
   Spc Tryz.prog 86 #[.pointer (some ⟨p, 0, none⟩), cu, .pointer (some ⟨pu, ou, none⟩)] Γ H (fun v Γ' H' => ∃ pe d', v = .pointer (some ⟨pe, 0, none⟩) ∧ NulR Γ' pe ∧ Byt Γ' d' l ∧
     H' = (p, cel (bufc (.pointer (some ⟨pd, 0, none⟩)) (.bool big) (ufmt pu ou) nm (off + 1) d' .nilIface post) T) :: F) := by
  refine Spc.perm ?_ hp.perm
  have e1 : (ulebL 0).length = 1 := by rw [ulebL_small (by decide)]; rfl
  refine Spc.body3 Tryz.func86 rfl Tryz.ntmps86 rfl ?_
  refine WC.seq ?_
  refine WC.region ?_
  (refine WL.box rfl spi_ rfl ?_; intro b)
  refine gx_ ?_
  refine WC.draw 15 (.take 0 (.take 1 (.take 2 (.take 3 (.take 4 (.take 5 (.take 6 (.take 7 (.take 8 (.take 9 (.take 10 (.take 11 (.one 12 (.one 13 (.one 14 .done))))))))))))))) (F) mixed (by (repeat (first | exact trivial | refine ⟨⟨_, pk_⟩, ?_⟩ | exact subH_self _ | apply subH_cons)); (first | done | fail)) (by decide +kernel) ?_
  refine dx_ ?_
  refine gx_ ?_
  refine WL.call rfl Tryz.call91 rfl rfl (by exact (buf_uleb (k := 0) (by omega) pk_ hd (by omega))) ?_
  rintro _ _ _ - ⟨rfl, rfl, d1, hd1, rfl⟩
  refine gx_ ?_
  (refine WL.box rfl spi_ rfl ?_; intro pe)
  refine gx_ ?_
  refine WE.drop (b := b) pk_ ?_
  refine WE.freeze (b := pe) pk_ (fun hle => ?_)
  rw [e1] at *
  refine end_1 rfl rfl hle ⟨pe, d1, rfl, ⟨?_, ?_, ?_, ?_⟩, hd1.mono hle, rfl⟩
  all_goals (simp [Env.cell, Env.add])
theorem nextNul_ok {Γ : Env} {H F : List Blk} {pr pd pu k off lso : Nat} {big lu lc : Bool} {us : List PU} {u : PU} {l : List UInt8} {d cu : Value}
   (hp : Pick H pr (cel (bufc (.pointer (some ⟨pd, 0, none⟩)) (.bool big) (ufmt pu (k * 9)) (.string sInfo) off d .nilIface (rdp pd .nilIface k lu lc (.int .u32 (lso : Int)) cu)) 150) F)
   (hd : Byt Γ d (ulebL 0 ++ l)) (hR : UnR Γ F big pd pu us) (hu : us[k]? = some u) (hsz : off + 1 + l.length ≤ 2147483648) :
   Spc Tryz.prog 61 #[.pointer (some ⟨pr, 0, none⟩)] Γ H (fun v Γ' H' => ∃ pe d' lso' cu', v = .tuple #[.pointer (some ⟨pe, 0, none⟩), .nilIface] ∧ NulR Γ' pe ∧ Byt Γ' d' l ∧
     H' = (pr, cel (bufc (.pointer (some ⟨pd, 0, none⟩)) (.bool big) (ufmt pu (k * 9)) (.string sInfo) (off + 1) d' .nilIface
       (rdp pd .nilIface k false false (.int .u32 ((lso' : Nat) : Int)) cu')) 150) :: F) := by
  refine Spc.perm ?_ hp.perm
  have hk := (List.getElem?_eq_some_iff.1 hu).1
  obtain ⟨dU, r, es, c, u5, hdU, him, hes, hrd⟩ := hR.cell hu
  have gsl := hR.sl
  have hpos : 0 < (ulebL 0 ++ l).length := by have := ulebL_pos 0; rw [List.length_append]; omega
  have hd0 := hd
  obtain ⟨ad, cd, rfl, hcd, -⟩ := hd
  have e9 : 0 + Int.toNat ((k : Nat) : Int) * 9 = k * 9 := by omega
  refine Spc.body1 Tryz.func61 rfl Tryz.ntmps61 rfl ?_
  refine gz_ ?_
  refine WL.call rfl Tryz.call85 rfl rfl (by exact (maybeNext_ok Pick.here hd0 hpos)) ?_
  rintro _ _ _ - ⟨rfl, rfl, rfl⟩
  refine gz_ ?_
  rw [show ((((ulebL 0 ++ l).length : Nat) : Int) == 0) = false from beq_eq_false_iff_ne.2 (by omega)]
  refine gz_ ?_
  refine WC.draw 13 (.take 0 (.take 1 (.take 2 (.take 3 (.take 4 (.take 5 (.take 6 (.take 7 (.take 8 (.take 9 (.take 10 (.take 11 (.one 12 .done))))))))))))) ((pr, _) :: F) mixed (by (repeat (first | exact trivial | refine ⟨⟨_, pk_⟩, ?_⟩ | exact subH_self _ | apply subH_cons)); (first | done | fail)) (by decide +kernel) ?_
  refine dz_ ?_
  rw [e9]
  refine dz_ ?_
  refine gz_ ?_
  refine WC.draw 10 (.take 0 (.take 1 (.take 2 (.take 3 (.take 4 (.take 5 (.take 7 (.one 6 (.one 8 (.one 9 .done)))))))))) (([] : List Blk)) mixed (by (repeat (first | exact trivial | refine ⟨⟨_, pk_⟩, ?_⟩ | exact subH_self _ | apply subH_cons)); (first | done | fail)) (by decide +kernel) ?_
  refine dz_ ?_
  refine WL.call rfl Tryz.call86 rfl rfl (by exact (entryNul_ok (vers := (u.vers : Int)) Pick.here hd0 (hrd 0 _ rfl) (hrd 3 _ rfl) (hrd 6 _ rfl) hsz)) ?_
  rintro _ Γ1 _ hle ⟨pe, d', rfl, hE, hd', rfl⟩
  refine dz_ ?_
  refine gz_ ?_
  have h1' := hE.tag
  have h2' := hE.ch
  refine gz_ ?_
  exact end_2 rfl rfl rfl hle ⟨pe, d', lso, cu, rfl, hE, hd', rfl⟩
theorem fieldsOfNil_ok {Γ : Env} {H : List Blk} : Spc Tryz.prog 72 #[.slice none 0 0] Γ H (fun r Γ' H' => Γ = Γ' ∧ r = .slice none 0 0 ∧ H' = H) := by
  refine Spc.body1 Tryz.func72 rfl Tryz.ntmps72 rfl ?_
  refine gz_ ?_
  refine WC.loop2 ?_
  refine gz_ ?_
  exact end_1 rfl rfl (Env.le.rfl' _) ⟨rfl, rfl, rfl⟩
/-- A reader that has come to a place of a unit. -/
def RdAt (Γ : Env) (pr pd pu k : Nat) (big : Bool) (off : Nat) (l : List UInt8) (o : Obj) : Prop := ∃ d lso lu lc cu, Byt Γ d l ∧
  o = cel (bufc (.pointer (some ⟨pd, 0, none⟩)) (.bool big) (ufmt pu (k * 9)) (.string sInfo) off d .nilIface (rdp pd .nilIface k lu lc (.int .u32 ((lso : Nat) : Int)) cu)) 150
theorem readDie_ok {Γ : Env} {H F : List Blk} {pr pd pu k off : Nat} {big : Bool} {sr lin : List UInt8} {us : List PU} {u : PU} {a : Abb} {its : List Itm} {l : List UInt8} {o : Obj}
   (hG : Glob Γ) (hp : Pick H pr o F) (hA : RdAt Γ pr pd pu k big off (ulebL a.code ++ (itexts its ++ l)) o)
   (hR : UnR Γ F big pd pu us) (hu : us[k]? = some u) (hS : Secs Γ F pd (uctx big sr lin (pusB big (us.take k)).length u)) (hz : u.size = 4 ∨ u.size = 8)
   (hdist : u.abs.Pairwise (fun a b => a.code ≠ b.code)) (hD : Die (uctx big sr lin (pusB big (us.take k)).length u) u.abs a its) (hsz : off + (ulebL a.code).length + (itexts its).length + l.length ≤ 2147483648)
   (hn : its.length < 1048576) (hb : ∀ x ∈ its, ∀ l, x.fv = .bs l → l.length < 2147483648) (ho : ∀ x ∈ its, ∀ n, x.fv = .o n → n < 4294967296) (htag : a.tag < 4294967296) :
   Spc Tryz.prog 38 #[.pointer (some ⟨pr, 0, none⟩), .agg #[.int .i64 0, .int .i64 0]] Γ H (fun r Γ' H' => ∃ c o', r = .agg c.toArray ∧ AnC Γ' ⟨off, a.tag, a.ch, its.map (fdI u.vers)⟩ c ∧
     RdAt Γ' pr pd pu k big (off + (ulebL a.code).length + (itexts its).length) l o' ∧ H' = (pr, o') :: F) := by
  obtain ⟨d, lso, lu, lc, cu, hd, rfl⟩ := hA
  refine Spc.perm ?_ hp.perm
  refine Spc.body2 Tryz.func38 rfl Tryz.ntmps38 rfl ?_
  refine WC.seq ?_
  refine WC.region ?_
  (refine WL.box rfl spi_ rfl ?_; intro b3)
  (refine WL.alloc tab_ok rfl rfl ?_; intro b4)
  refine gz_ ?_
  (refine WL.alloc tab_ok rfl rfl ?_; intro b5)
  refine gz_ ?_
  refine WL.call rfl Tryz.call61 rfl rfl (by exact (next_ok (sr := sr) (lin := lin) hG pk_ hd hR.cons.cons.cons hu hS.cons.cons.cons hz hdist hD hsz)) ?_
  rintro _ Γ1 _ hle1 ⟨pe, d', cu', rfl, hE, hd', rfl⟩
  refine gz_ ?_
  refine WL.call rfl Tryz.call32 rfl rfl (by exact codeOfN_ok) ?_
  rintro _ _ _ - ⟨rfl, rfl, rfl⟩
  refine gz_ ?_
  refine WL.call rfl Tryz.call39 rfl rfl (by exact (entryOf_ok hE hn hb ho (fun x hx => by have := hD.low x hx; omega) (by omega) htag)) ?_
  rintro _ Γ2 _ hle2 ⟨cs, rfl, hC, rfl⟩
  have hC' := hC
  obtain ⟨vf, rfl, af, cf, cels, rfl, -, -, -⟩ := hC'
  refine gz_ ?_
  refine WE.drop (b := b3) pk_ ?_
  refine WE.drop (b := b5) pk_ ?_
  exact end_c tab_ok rfl rfl rfl rfl pk_ rfl (hle1.trans hle2) ⟨_, _, rfl, ⟨_, hC, rfl⟩, ⟨d', _, _, _, _, hd'.mono hle2, rfl⟩, rfl⟩
theorem entryOfNul_ok {Γ : Env} {H : List Blk} {pe : Nat} (hE : NulR Γ pe) :
   Spc Tryz.prog 39 #[.pointer (some ⟨pe, 0, none⟩)] Γ H (fun r Γ' H' => Γ = Γ' ∧ r = .agg #[.int .i64 0, .int .i64 0, .bool false, .slice none 0 0] ∧ H' = H) := by
  obtain ⟨h0, h1, h2, h3⟩ := hE
  refine Spc.body1 Tryz.func39 rfl Tryz.ntmps39 rfl ?_
  refine WC.seq ?_
  refine WC.region ?_
  (refine WL.alloc tab_ok rfl rfl ?_; intro b2)
  refine gz_ ?_
  refine WC.draw 20 (.take 0 (.take 1 (.take 2 (.take 3 (.take 4 (.take 5 (.take 6 (.take 7 (.take 8 (.take 9 (.take 10 (.take 11 (.take 12 (.take 13 (.take 14 (.take 15 (.take 16 (.take 17 (.one 18 (.take 19 (.one 20 .done))))))))))))))))))))) ((b2, _) :: []) mixed (by (repeat (first | exact trivial | refine ⟨⟨_, pk_⟩, ?_⟩ | exact subH_self _ | apply subH_cons)); (first | done | fail)) (by decide +kernel) ?_
  refine dz_ ?_
  refine WL.call rfl Tryz.call72 rfl rfl (by exact fieldsOfNil_ok) ?_
  rintro _ _ _ - ⟨rfl, rfl, rfl⟩
  refine dz_ ?_
  refine gz_ ?_
  exact end_c tab_ok rfl rfl rfl rfl Pick.here rfl (Env.le.rfl' _) ⟨rfl, rfl, rfl⟩
theorem readNul_ok {Γ : Env} {H F : List Blk} {pr pd pu k off : Nat} {big : Bool} {us : List PU} {u : PU} {l : List UInt8} {o : Obj}
   (hp : Pick H pr o F) (hA : RdAt Γ pr pd pu k big off (ulebL 0 ++ l) o)
   (hR : UnR Γ F big pd pu us) (hu : us[k]? = some u) (hsz : off + 1 + l.length ≤ 2147483648) :
   Spc Tryz.prog 38 #[.pointer (some ⟨pr, 0, none⟩), .agg #[.int .i64 0, .int .i64 0]] Γ H (fun r Γ' H' => ∃ c o', r = .agg c.toArray ∧ AnC Γ' ⟨0, 0, false, []⟩ c ∧
     RdAt Γ' pr pd pu k big (off + 1) l o' ∧ H' = (pr, o') :: F) := by
  obtain ⟨d, lso, lu, lc, cu, hd, rfl⟩ := hA
  refine Spc.perm ?_ hp.perm
  refine Spc.body2 Tryz.func38 rfl Tryz.ntmps38 rfl ?_
  refine WC.seq ?_
  refine WC.region ?_
  (refine WL.box rfl spi_ rfl ?_; intro b3)
  (refine WL.alloc tab_ok rfl rfl ?_; intro b4)
  refine gz_ ?_
  (refine WL.alloc tab_ok rfl rfl ?_; intro b5)
  refine gz_ ?_
  refine WL.call rfl Tryz.call61 rfl rfl (by exact (nextNul_ok pk_ hd hR.cons.cons.cons hu hsz)) ?_
  rintro _ Γ1 _ hle1 ⟨pe, d', lso', cu', rfl, hE, hd', rfl⟩
  refine gz_ ?_
  refine WL.call rfl Tryz.call32 rfl rfl (by exact codeOfN_ok) ?_
  rintro _ _ _ - ⟨rfl, rfl, rfl⟩
  refine gz_ ?_
  refine WL.call rfl Tryz.call39 rfl rfl (by exact (entryOfNul_ok hE)) ?_
  rintro _ _ _ - ⟨rfl, rfl, rfl⟩
  refine gz_ ?_
  refine WE.drop (b := b3) pk_ ?_
  refine WE.drop (b := b5) pk_ ?_
  exact end_c tab_ok rfl rfl rfl rfl pk_ rfl hle1 ⟨_, _, rfl, ⟨_, ⟨_, rfl, none, 0, [], rfl, Nat.le_refl _, fun i x h => by simp at h, rfl⟩, rfl⟩, ⟨d', _, _, _, _, hd', rfl⟩, rfl⟩
end Go.Proofs.YtdplhbmoidepgaaGreatDoor
namespace Go.Proofs.YtdplhbmoidepgaaGreatDoor
open Go Go.Sl
set_option maxRecDepth 10000
set_option maxHeartbeats 40000000

/-- A reader at a unit. -/
def RdGen (pd : Nat) (un : Int) (o : Obj) : Prop := ∃ x0 x1 x2 x3 x4 x5 x6 err lu lc lso cu, o = cel (x0 :: x1 :: x2 :: x3 :: x4 :: x5 :: x6 :: rdp pd err un lu lc (.int .u32 ((lso : Nat) : Int)) cu) 150
/-- Whether a place is covered. -/
def covR (rs : List (Nat × Nat)) (pc : Nat) : Bool := rs.any fun r => decide (r.1 ≤ pc) && decide (pc < r.2)
/-- What a unit's first entry is, and what it says of its places. -/
structure FstR (l : Lay) (sr lin rt : List UInt8) (base : Nat) (u : PU) (rs : List (Nat × Nat)) (a : Abb) (its : List Itm) (post : List UInt8) : Prop where
  body : u.body = ulebL a.code ++ (itexts its ++ post)
  die : Die (uctx l.big sr lin base u) u.abs a its
  tag : a.tag = 17
  says : RgS l a.tag its rt rs
  few : rs.length ≤ 1000
  vers : (u.vers : Int) = l.vers
  size : u.size = l.size.toNat
  dist : u.abs.Pairwise (fun a b => a.code ≠ b.code)
theorem seekPC_ok {Γ : Env} {H F F1 : List Blk} {pr pd pu pc : Nat} {l : Lay} {sr lin rt : List UInt8} {us : List PU} {cs : List Value} {o : Obj} {R : Nat → List (Nat × Nat)} {A : Nat → Abb} {I : Nat → List Itm} {Po : Nat → List UInt8} {ev vR vRl : Value} {ux : PU} {bx : Nat}
   (hG : Glob Γ) (hev : Γ.cell 1 0 = some ev) (hp : Pick H pr o F1) (ho : RdGen pd 0 o) (hq : Pick F1 pu (cel cs 178) F) (hcs : UQs Γ l.big 0 us cs)
   (hS : Secs Γ F pd (uctx l.big sr lin bx ux)) (h17 : Rd Γ F pd 17 (.slice (some ⟨pu, 0, none⟩) us.length us.length)) (hn : us.length ≤ 2147483647) (hall : (pusB l.big us).length < 2147483648)
   (hzl : l.size = 4 ∨ l.size = 8) (h6 : Rd Γ F pd 6 vR) (h11 : Rd Γ F pd 11 vRl) (hrl : rt.length < 2147483648) (hrt : (4 < l.vers ∧ Byt Γ vRl rt ∧ rt ≠ []) ∨ (l.vers ≤ 4 ∧ Byt Γ vR rt))
   (hus : ∀ (i : Nat) (u : PU), us[i]? = some u → FstR l sr lin rt (pusB l.big (us.take i)).length u (R i) (A i) (I i) (Po i)) :
   Spc Tryz.prog 37 #[.pointer (some ⟨pr, 0, none⟩), .int .u64 (pc : Int)] Γ H (fun v Γ' H' => 
     (∃ k u pe o' cs', us[k]? = some u ∧ covR (R k) pc = true ∧ (∀ j, j < k → covR (R j) pc = false) ∧
       v = .tuple #[.pointer (some ⟨pe, 0, none⟩), .nilIface] ∧ EntR Γ' pe (offU l.big us k) (A k).tag (A k).ch (I k) u.vers ∧ RdAt Γ' pr pd pu k l.big (offU l.big us k + (ulebL (A k).code).length + (itexts (I k)).length) (Po k) o' ∧ UQs Γ' l.big 0 us cs' ∧
       H' = (pr, o') :: (pu, cel cs' 178) :: F) ∨
     ((∀ j, j < us.length → covR (R j) pc = false) ∧ v = .tuple #[.pointer none, ev] ∧ ∃ o' cs', H' = (pr, o') :: (pu, cel cs' 178) :: F)) := by
  refine Spc.perm ?_ (hp.perm.trans (List.Perm.cons _ hq.perm))
  obtain ⟨x0, x1, x2, x3, x4, x5, x6, err, lu, lc, lso, cu, rfl⟩ := ho
  refine Spc.body2 Tryz.func37 rfl Tryz.ntmps37 rfl ?_
  refine gx_ ?_
  refine WC.loopE (fun m R' Γ' H' => ∃ i o' cs', R' = [(0, .pointer (some ⟨pr, 0, none⟩)), (1, .int .u64 (pc : Int)), (6, .int .i64 ((i : Nat) : Int)), (7, .int .i64 ((i : Nat) : Int))] ∧ Γ.le Γ' ∧
      RdGen pd ((if i = 0 then 0 else i - 1 : Nat) : Int) o' ∧ UQs Γ' l.big 0 us cs' ∧ H' = (pr, o') :: (pu, cel cs' 178) :: F ∧ m = us.length - i ∧ i ≤ us.length ∧ ∀ j, j < i → covR (R j) pc = false)
    ⟨0, _, cs, rfl, Env.le.rfl' _, ⟨x0, x1, x2, x3, x4, x5, x6, err, lu, lc, lso, cu, rfl⟩, hcs, rfl, rfl, Nat.zero_le _, fun _ h => by omega⟩ sr_ sn_ ?_
  rintro m R' Γ1 H' ⟨i, o', cs', rfl, hle, ⟨y0, y1, y2, y3, y4, y5, y6, err', lu', lc', lso', cu', rfl⟩, hcs', rfl, rfl, hi, hno⟩
  have g17 := h17.mono hle
  rcases Nat.lt_or_ge i us.length with hlt | hge
  case inr =>
    have ei : i = us.length := by omega
    subst ei
    have hev1 := hle.cell hev
    refine gx_ ?_
    refine WC.condF rfl (decide_eq_false (by omega)) ?_
    refine gx_ ?_
    refine WC.draw 3 (.take 0 (.one 1 (.one 2 .done))) ((([] : List Blk))) mixed (by (repeat (first | exact trivial | refine ⟨⟨_, pk_⟩, ?_⟩ | exact subH_self _ | apply subH_cons)); (first | done | fail)) (by decide +kernel) ?_
    refine dx_ ?_
    refine gx_ ?_
    exact end_2 rfl rfl rfl hle (.inr ⟨hno, rfl, _, _, rfl⟩)
  case inl =>
    obtain ⟨u, hu⟩ : ∃ u, us[i]? = some u := ⟨_, List.getElem?_eq_getElem hlt⟩
    have hF := hus i u hu
    generalize hAi : A i = a at hF
    generalize hIi : I i = its at hF
    generalize hPi : Po i = post at hF
    have hoff := offU_get (big := l.big) hu
    have hstep := offU_step (big := l.big) hu
    have hmono := pusB_take_mono (big := l.big) (us := us) (i := i + 1) (j := us.length) (by omega) (Nat.le_refl _)
    rw [List.take_length] at hmono
    have hlz := lsz_bd u.wide
    have e9 : 0 + Int.toNat ((i : Nat) : Int) * 9 = i * 9 := by omega
    have hbl : u.body.length = (ulebL a.code).length + (itexts its).length + post.length := by rw [hF.body, List.length_append, List.length_append]; omega
    have hz8 : u.size = 4 ∨ u.size = 8 := by have := hF.size; omega
    obtain ⟨p, c0, q, rfl, hpl, ⟨d, r, es, cm, u5, rfl, hd, him, hes⟩, hback⟩ := hcs'.get hu
    have hd' := hd
    obtain ⟨ad, cd, rfl, hcd, -⟩ := hd'
    rw [Nat.zero_add] at hcs' hback
    have hS1 : Secs Γ1 F pd (uctx l.big sr lin (pusB l.big (us.take i)).length u) := (hS.mono hle).to
    have hord := hS1.ord
    have hP : ∀ {x : Blk} {G : List Blk}, Pick (x :: (pu, cel (p ++ (uqc (pusB l.big (us.take i)).length ((pusB l.big (us.take i)).length + lsz u.wide + hsz u) (.slice ad u.body.length cd) r u5 u.size u.vers u.wide [] ++ q)) 178) :: G) pu (cel (p ++ (uqc (pusB l.big (us.take i)).length ((pusB l.big (us.take i)).length + lsz u.wide + hsz u) (.slice ad u.body.length cd) r u5 u.size u.vers u.wide [] ++ q)) 178) (x :: G) := fun {x G} => Pick.there Pick.here
    rw [Nat.zero_add]
    refine gx_ ?_
    refine WC.condT rfl (by first | rfl | exact decide_eq_true (by omega) | (simp; (first | done | fail)) | (simp; omega)) ?_
    refine gx_ ?_
    refine WC.condF rfl (decide_eq_false (by omega)) ?_
    refine gx_ ?_
    rw [e9]
    have r1 : Rd Γ1 ((pr, cel (y0 :: y1 :: y2 :: y3 :: y4 :: y5 :: y6 :: rdp pd .nilIface i lu' false (.int .u32 ((lso' : Nat) : Int)) (.pointer none)) 150) :: (pu, cel (p ++ (uqc (pusB l.big (us.take i)).length ((pusB l.big (us.take i)).length + lsz u.wide + hsz u) (.slice ad u.body.length cd) r u5 u.size u.vers u.wide [] ++ q)) 178) :: F) pu (i * 9 + 1) (.int .u32 (((pusB l.big (us.take i)).length + lsz u.wide + hsz u : Nat) : Int)) := Rd.pre (k := 1) hP rfl (by omega)
    have r2 : Rd Γ1 ((pr, cel (y0 :: y1 :: y2 :: y3 :: y4 :: y5 :: y6 :: rdp pd .nilIface i lu' false (.int .u32 ((lso' : Nat) : Int)) (.pointer none)) 150) :: (pu, cel (p ++ (uqc (pusB l.big (us.take i)).length ((pusB l.big (us.take i)).length + lsz u.wide + hsz u) (.slice ad u.body.length cd) r u5 u.size u.vers u.wide [] ++ q)) 178) :: F) pu (i * 9 + 2) (.slice ad u.body.length cd) := Rd.pre (k := 2) hP rfl (by omega)
    refine WC.draw 18 (.take 0 (.take 1 (.take 2 (.take 3 (.take 4 (.take 5 (.take 6 (.take 7 (.take 8 (.take 9 (.take 10 (.take 11 (.take 12 (.take 13 (.take 14 (.one 15 (.one 16 (.take 17 (.one 18 .done))))))))))))))))))) ((pr, _) :: (pu, _) :: F) mixed (by (repeat (first | exact trivial | refine ⟨⟨_, pk_⟩, ?_⟩ | exact subH_self _ | apply subH_cons)); (first | done | fail)) (by decide +kernel) ?_
    refine dx_ ?_
    refine WL.call rfl Tryz.call68 rfl rfl (by exact (makeBuf_ok (off := (pusB l.big (us.take i)).length + lsz u.wide + hsz u) (Rd.cons (Rd.cons hord)))) ?_
    rintro _ _ _ - ⟨rfl, rfl, rfl⟩
    refine dx_ ?_
    refine gx_ ?_
    have hTop : Top Γ1 (uctx l.big sr lin (pusB l.big (us.take i)).length u) u.vers u.abs ((pusB l.big (us.take i)).length + lsz u.wide + hsz u) (.slice ad u.body.length cd) r :=
      ⟨rfl, hz8, hF.dist, ⟨es, cm, him, hes⟩, a, its, post, by rw [← hF.body]; exact hd, hF.die, by omega⟩
    refine WL.call rfl Tryz.call69 rfl rfl (by exact (collectR_ok (pre := p) (q := q) (T := 178) (F := (pr, _) :: F) (hG.mono hle) (Pick.there Pick.here) (by omega) hS1.cons (.inr ⟨_, _, _, _, Pick.here, rfl⟩) hTop)) ?_
    rintro _ Γ2 _ hle2 ⟨rfl, u5', rfl⟩
    have hle12 := hle.trans hle2
    refine gx_ ?_
    have hq2 : UQs Γ2 l.big 0 us (p ++ (uqc (pusB l.big (us.take i)).length ((pusB l.big (us.take i)).length + lsz u.wide + hsz u) (.slice ad u.body.length cd) r u5' u.size u.vers u.wide [] ++ q)) :=
      hback hle2 ⟨_, r, es, cm, u5', rfl, hd.mono hle2, hle2.imm _ _ him, hes.mono hle2⟩
    have hd2 : Byt Γ2 (.slice ad u.body.length cd) (ulebL a.code ++ (itexts its ++ post)) := by rw [← hF.body]; exact hd.mono hle2
    refine WL.call rfl Tryz.call61 rfl rfl (by exact (next_ok (us := us) (sr := sr) (lin := lin) (k := i) (hG.mono hle12) (Pick.there Pick.here) hd2 ⟨(g17.mono hle2).cons, _, _, Pick.here, hq2⟩ hu (hS1.mono hle2).cons hz8 hF.dist hF.die (by omega))) ?_
    rintro _ Γ3 _ hle3 ⟨pe, d3, cu3, rfl, hE, hd3, rfl⟩
    have hle13 := hle12.trans hle3
    rw [← hoff] at hE
    have h1t : Γ3.cell pe (0 + 1) = some (.int .u32 17) := by have := hE.tag; rw [hF.tag] at this; exact this
    refine gx_ ?_
    refine WL.call rfl Tryz.call36 rfl rfl (by exact (ranges_ok (l := l) (vR := vR) (vRl := vRl) (k := i) (pu := pu) hF.says hE hF.die.few ⟨(g17.mono (hle2.trans hle3)).cons.cons, _, _, Pick.there Pick.here, hq2.mono hle3⟩ hn hall hu (by omega) (by have := ulebL_pos a.code; omega) hF.vers hF.size hzl (hord.mono (hle2.trans hle3)).cons.cons (h6.mono hle13).cons.cons (h11.mono hle13).cons.cons hrl (by
      rcases hrt with ⟨h1, h2, h3⟩ | ⟨h1, h2⟩
      · exact .inl ⟨h1, h2.mono hle13, h3⟩
      · exact .inr ⟨h1, h2.mono hle13⟩))) ?_
    rintro _ _ _ - ⟨rfl, vo, Hs, rfl, how, rfl⟩
    refine gx_ ?_
    refine WL.keep how tk_ (fun Γ4 hle4 him => ?_)
    have hle34 := hle13.trans hle4
    have hfew := hF.few
    obtain ⟨a1, cap1, cells1, rfl, hcap1, hA1, hL1⟩ := Im.pairs him
    refine gx_ ?_
    refine WC.loopE (fun m R' Γ' H' => ∃ j, R' = [(0, .pointer (some ⟨pr, 0, none⟩)), (1, .int .u64 (pc : Int)), (6, .int .i64 ((i : Nat) : Int)), (7, .int .i64 ((i : Nat) : Int)), (9, .pointer (some ⟨pe, 0, none⟩)), (113, .slice a1 (R i).length cap1), (114, .int .i64 ((R i).length : Int)), (115, .int .i64 ((j : Nat) : Int))] ∧ Γ4 = Γ' ∧
      H' = (pr, _) :: (pu, _) :: F ∧ m = (R i).length - j ∧ j ≤ (R i).length ∧ covR (R i) pc = covR ((R i).drop j) pc)
      ⟨0, rfl, rfl, rfl, rfl, Nat.zero_le _, rfl⟩ sr_ sn_ ?_
    rintro m R' Γ' H' ⟨j, rfl, rfl, rfl, rfl, hj, hany⟩
    rcases Nat.lt_or_ge j (R i).length with hjlt | hjge
    case inr =>
      have ej : j = (R i).length := by omega
      subst ej
      rw [List.drop_length] at hany
      refine gx_ ?_
      refine WC.condF rfl (decide_eq_false (by omega)) ?_
      refine gx_ ?_
      have hwi : IntKind.i64.wrap ((i : Int) + 1) = (i : Int) + 1 := w_i64 (by omega) (by omega)
      refine WE.again ⟨i + 1, _, _, rfl, hle34, ⟨_, _, _, _, _, _, _, _, _, _, _, _, rfl⟩, hq2.mono (hle3.trans hle4), rfl, rfl, hlt, fun j hj => ?_⟩ (by omega) ⟨rfl, rfl, congrArg (fun z => some (Value.int .i64 z)) hwi, congrArg (fun z => some (Value.int .i64 z)) hwi, trivial⟩ sn_
      rcases Nat.lt_or_ge j i with h | h
      · exact hno j h
      · have : j = i := by omega
        subst this; exact hany
    case inl =>
      obtain ⟨⟨lo, hi'⟩, hx⟩ : ∃ y, (R i)[j]? = some y := ⟨_, List.getElem?_eq_getElem hjlt⟩
      have hdr : (R i).drop j = (lo, hi') :: (R i).drop (j + 1) := by
        rw [List.drop_eq_getElem_cons hjlt]
        rw [List.getElem?_eq_getElem hjlt] at hx; injection hx with hx; rw [hx]
      have hany2 : covR (R i) pc = ((decide (lo ≤ pc) && decide (pc < hi')) || covR ((R i).drop (j + 1)) pc) := by
        rw [hany, hdr]; rfl
      obtain ⟨o1, p1, d1, rfl, hP1, hc1⟩ := elemA hA1 hL1 (fun _ _ h => h.len) (w := 2) (by decide) hx
      unfold PairC at hP1
      subst hP1
      simp only at hc1
      have hwj : IntKind.i64.wrap ((j : Int) + 1) = (j : Int) + 1 := w_i64 (by omega) (by omega)
      refine gz_ ?_
      refine WC.condT rfl (by first | rfl | exact decide_eq_true (by omega) | (simp; (first | done | fail)) | (simp; omega)) ?_
      refine gz_ ?_
      (refine WL.alloc tab_ok rfl rfl ?_; intro b13)
      refine gz_ ?_
      refine WL.idxArr tab_ok rfl rfl rfl rfl (by omega) (by omega) rfl ?_
      refine gz_ ?_
      by_cases q1 : lo ≤ pc
      · rw [show decide ((lo : Int) ≤ (pc : Int)) = true from decide_eq_true (by omega)]
        refine gz_ ?_
        refine WL.idxArr tab_ok rfl rfl rfl rfl (by omega) (by omega) rfl ?_
        refine gz_ ?_
        by_cases q2 : pc < hi'
        · rw [show decide ((pc : Int) < (hi' : Int)) = true from decide_eq_true (by omega)]
          refine gz_ ?_
          refine WE.drop (b := b13) pk_ ?_
          refine end_2 rfl rfl rfl hle34 (.inl ⟨i, u, pe, _, _, hu, by rw [hany2]; simp [q1, q2], hno, rfl, by rw [hAi, hIi]; exact hE.mono hle4, by rw [hAi, hIi, hPi]; exact ⟨d3, _, _, _, _, hd3.mono hle4, by rw [← hoff]⟩, hq2.mono (hle3.trans hle4), rfl⟩)
        · rw [show decide ((pc : Int) < (hi' : Int)) = false from decide_eq_false (by omega)]
          refine gz_ ?_
          exact WE.again ⟨j + 1, rfl, rfl, rfl, rfl, hjlt, by rw [hany2]; simp [q2]⟩ (by omega) ⟨rfl, rfl, rfl, rfl, rfl, rfl, rfl, congrArg (fun z => some (Value.int .i64 z)) hwj, trivial⟩ sn_
      · rw [show decide ((lo : Int) ≤ (pc : Int)) = false from decide_eq_false (by omega)]
        refine gz_ ?_
        exact WE.again ⟨j + 1, rfl, rfl, rfl, rfl, hjlt, by rw [hany2]; simp [q1]⟩ (by omega) ⟨rfl, rfl, rfl, rfl, rfl, rfl, rfl, congrArg (fun z => some (Value.int .i64 z)) hwj, trivial⟩ sn_
end Go.Proofs.YtdplhbmoidepgaaGreatDoor
namespace Go.Sl
open Go
section
variable {P : Program} {ops : Array Oper} {Q : Post} {n : Nat} {D : List Deferred} {R : Regs} {Γ : Env} {H : List Blk} {rest : List Oper}
variable {d : Nat} {ty : TypeId} {pos : String} {aft : Array Edge}
theorem WL.eqOther {T : Tab} (hT : TabOk P T) {ti tp te o5 : TypeId} {ms : Array (String × TypeId)} {x y : Operand} {s0 : Nat} {a b : Addr} {ca cb : Array Value} {ta tb : TypeId}
    (hx : ev R x = some (.iface tp (.pointer (some a)))) (hy : ev R y = some (.iface tp (.pointer (some b)))) (hi : T.desc ti = some (.interface ms)) (hp : T.desc tp = some (.pointer te)) (hinfo : (P.info? tp).map (fun i => i.comparable) = some true)
    (hte : (P.info? te).map (fun i => i.size) = some s0) (hsz : s0 ≠ 0) (hne : a ≠ b) (ha : Γ.imm a.block = some (.cells ca ta (0, 0))) (hb : Γ.imm b.block = some (.cells cb tb (0, 0))) (hd : Nat.blt d n = true)
    (K : WL P ops Q n D rest ((d, .bool false) :: R) Γ H) : WL P ops Q n D (⟨some d, .binOp .eql ti x y o5, ty, pos, aft, none⟩ :: rest) R Γ H :=
  WL.value hd fun s w hs => by
    obtain ⟨i, hi1, hcomp⟩ := Option.map_eq_some_iff.1 hinfo
    obtain ⟨j, hj1, hjs⟩ := Option.map_eq_some_iff.1 hte
    refine ⟨_, w, ?_, Γ, H, hs.st, K⟩
    have hr := run_eql_iface_ptr_other w (Tab.desc_ok hT hi) (Tab.desc_ok hT hp) hi1 hcomp hj1 (by rw [hjs]; exact hsz) hne (hs.st.imm _ _ ha) (hs.st.imm _ _ hb)
    simp only [execOp, ev_eval hs.regs hx, ev_eval hs.regs hy, eqGuard_at_iface, pure_bind, Sem.run_bind, hr, Result.andThen_ok, Sem.run_pure]
theorem WL.eqSame {T : Tab} (hT : TabOk P T) {ti tp te o5 : TypeId} {ms : Array (String × TypeId)} {x y : Operand} {s0 : Nat} {a : Addr}
    (hx : ev R x = some (.iface tp (.pointer (some a)))) (hy : ev R y = some (.iface tp (.pointer (some a)))) (hi : T.desc ti = some (.interface ms)) (hp : T.desc tp = some (.pointer te)) (hinfo : (P.info? tp).map (fun i => i.comparable) = some true)
    (hte : (P.info? te).map (fun i => i.size) = some s0) (hd : Nat.blt d n = true)
    (K : WL P ops Q n D rest ((d, .bool true) :: R) Γ H) : WL P ops Q n D (⟨some d, .binOp .eql ti x y o5, ty, pos, aft, none⟩ :: rest) R Γ H :=
  WL.value hd fun s w hs => by
    obtain ⟨i, hi1, hcomp⟩ := Option.map_eq_some_iff.1 hinfo
    obtain ⟨j, hj1, hjs⟩ := Option.map_eq_some_iff.1 hte
    refine ⟨_, w, ?_, Γ, H, hs.st, K⟩
    have hr := run_eql_iface_ptr_same (P := P) w a (Tab.desc_ok hT hi) (Tab.desc_ok hT hp) hi1 hcomp hj1
    simp only [execOp, ev_eval hs.regs hx, ev_eval hs.regs hy, eqGuard_at_iface, pure_bind, Sem.run_bind, hr, Result.andThen_ok, Sem.run_pure]
end
end Go.Sl
namespace Go.Proofs.YtdplhbmoidepgaaGreatDoor
open Go Go.Sl
set_option maxRecDepth 10000
set_option maxHeartbeats 40000000

/-- The two errors that the package and its library name. -/
def SentR (Γ : Env) (a1 : Addr) : Prop := ∃ a0 c0 c1 t0 t1, Γ.cell 0 0 = some (.iface 232 (.pointer (some a0))) ∧ Γ.cell 1 0 = some (.iface 232 (.pointer (some a1))) ∧
  Γ.imm a0.block = some (.cells c0 t0 (0, 0)) ∧ Γ.imm a1.block = some (.cells c1 t1 (0, 0)) ∧ a1 ≠ a0
theorem SentR.mono {Γ Γ' : Env} (hle : Γ.le Γ') {a1 : Addr} (h : SentR Γ a1) : SentR Γ' a1 := by
  obtain ⟨a0, c0, c1, t0, t1, h1, h2, h3, h4, h5⟩ := h
  exact ⟨a0, c0, c1, t0, t1, hle.cell h1, hle.cell h2, hle.imm _ _ h3, hle.imm _ _ h4, h5⟩
theorem codeOfU_ok {Γ : Env} {H : List Blk} {a1 : Addr} (hS : SentR Γ a1) : Spc Tryz.prog 32 #[.iface 232 (.pointer (some a1))] Γ H (fun v Γ' H' => Γ = Γ' ∧ H = H' ∧ v = .int .i64 2) := by
  obtain ⟨a0, c0, c1, t0, t1, h1, h2, h3, h4, h5⟩ := hS
  refine Spc.body1 Tryz.func32 rfl Tryz.ntmps32 rfl ?_
  refine gz_ ?_
  refine WL.eqOther tab_ok rfl rfl rfl rfl (s0 := 1) (by kernel_rfl) (by kernel_rfl) (by decide) h5 h4 h3 rfl ?_
  refine gz_ ?_
  refine WL.eqSame tab_ok rfl rfl rfl rfl (s0 := 1) (by kernel_rfl) (by kernel_rfl) rfl ?_
  refine gz_ ?_
  exact end_1 rfl rfl (Env.le.rfl' _) ⟨rfl, rfl, rfl⟩
end Go.Proofs.YtdplhbmoidepgaaGreatDoor
