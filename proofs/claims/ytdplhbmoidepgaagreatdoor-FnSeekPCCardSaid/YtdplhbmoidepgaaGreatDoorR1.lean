/- How what is given reads: out of the row's form into the layer's. What the package's variables hold; what a world reads behind a call that left all blocks as they were. What a world reads behind a call that left all blocks as they were. From a contract to a row: what is alike in all statements of this seat. -/
import Derived.Test.YtdplhbmoidepgaaGreatDoorG1
import Derived.ProofKit
import Derived.WideKeyArgs
import Derived.Deep.Slices
import Derived.Lib.SmallJoins
import Derived.Test.YtdplhbmoidepgaaGreatDoorRows
import Derived.LaidMore
import Derived.OpenShut
import Derived.Stop.Joined
import Derived.MakeChecks
import Derived.Test.YtdplhbmoidepgaaGreatDoorG2
namespace Go.Sl
open Go
/-- A world of which nothing turns any more. -/
def envW (W : World) : Env := ⟨fun b => W.heap[b]?, W.os, W.tape, W.output⟩
theorem envW_st (W : World) : St (envW W) [] W := ⟨fun _ _ h => h, fun _ _ h => (by simp at h), List.Pairwise.nil, fun _ _ h => (by simp at h), rfl, rfl, rfl⟩
theorem envW_cell {W : World} {a : Addr} {x : Value} (h : W.cell? a = some x) : a.spot = none ∧ (envW W).cell a.block a.off = some x := by
  obtain ⟨b, o, s⟩ := a
  unfold World.cell? at h
  unfold Env.cell envW
  simp only at h ⊢
  split at h
  · next c t fz hb =>
    split at h
    · cases h
    · next hs =>
      refine ⟨?_, by rw [hb]; exact h⟩
      cases s with
      | none => rfl
      | some k => exact absurd rfl hs
  · cases h
end Go.Sl
namespace Go.Proofs.YtdplhbmoidepgaaGreatDoor
open Go Go.Sl Go.Deep Go.WideElems
set_option maxRecDepth 10000
set_option maxHeartbeats 4000000
section
variable {HH : Type} {enc : TypeId × Value → HH} {W : World} {base : Nat} {spr : Nat → Bool} {held : Bool}
theorem read_slice {α : Type} {P : Program} {P1 : α → List Value → Prop} {w : Nat} {t e : TypeId} (ht : P.underlying t = some (.slice e)) (hw : P.cellsOf e = w) (h0 : 0 < w) (hP : ∀ x c, P1 x c → c.length = w)
    (hel : ∀ n cs x, DataW.trod enc P W base spr held n e cs = some x → ∃ y, P1 y cs) {fuel : Nat} {cs : List Value} {x : DataW HH × List MemPlace} (h : DataW.trod enc P W base spr held fuel t cs = some x) :
    ∃ v ys, cs = [v] ∧ Arr (envW W) P1 v ys := by
  rcases open_slice ht h with ⟨rfl, -⟩ | ⟨a, len, cap, m, n, D, Pl, rfl, hb, hl, hm, hmm, rfl, hx⟩
  · exact ⟨_, [], rfl, none, 0, [], rfl, Nat.le_refl _, fun i x e => by simp at e, rfl⟩
  · have hlm : len ≤ m := by rw [hmm]; split <;> omega
    clear hmm hm hb
    rw [hw] at hx
    rcases Nat.eq_zero_or_pos len with hz | hpos
    · subst hz
      exact ⟨_, [], rfl, some a, cap, [], rfl, Nat.zero_le _, fun i x e => by simp at e, rfl⟩
    have hsp : a.spot = none := by
      obtain ⟨cs', g1, g2⟩ := hx 0 (by omega)
      obtain ⟨-, gl, gc⟩ := World.cells?_some g1
      have g := gc 0 (by omega)
      rw [List.getElem?_eq_getElem (by omega)] at g
      have := (envW_cell g).1
      simpa [Addr.add] using this
    obtain ⟨b, o, s⟩ := a
    simp only at hsp
    subst hsp
    have key : ∀ k, k ≤ len → ∃ ys cells, ys.length = k ∧ LisC P1 ys cells ∧ ∀ (j : Nat) (x : Value), cells[j]? = some x → (envW W).cell b (o + j) = some x := by
      intro k
      induction k with
      | zero => exact fun _ => ⟨[], [], rfl, rfl, fun j x hj => by simp at hj⟩
      | succ k ih =>
        intro hk
        obtain ⟨ys, cells, h1, h2, h3⟩ := ih (by omega)
        obtain ⟨cs', g1, g2⟩ := hx k (by omega)
        obtain ⟨y, hy⟩ := hel _ _ _ g2
        obtain ⟨-, gl, gc⟩ := World.cells?_some g1
        have hcl := LisC.length hP h2
        rw [h1] at hcl
        refine ⟨ys ++ [y], cells ++ cs', by simp [h1], h2.append (LisC.one hy), fun j x hj => ?_⟩
        by_cases hlt : j < cells.length
        · rw [List.getElem?_append_left hlt] at hj; exact h3 j x hj
        · obtain ⟨i, rfl⟩ : ∃ i, j = cells.length + i := ⟨j - cells.length, by clear hx h3 gc; omega⟩
          rw [List.getElem?_append_right (Nat.le_add_right _ _), Nat.add_sub_cancel_left] at hj
          have hjl := (List.getElem?_eq_some_iff.1 hj).1
          have g := gc i (by omega)
          rw [hj, Addr.add_lit, Addr.add_lit, ← hcl] at g
          have g4 := (envW_cell g).2
          rw [← Nat.add_assoc]; exact g4
    obtain ⟨ys, cells, h1, h2, h3⟩ := key len (Nat.le_refl _)
    exact ⟨_, ys, rfl, some ⟨b, o, none⟩, cap, cells, by rw [h1], by omega, fun j x hj => ⟨b, o, rfl, h3 j x hj⟩, h2⟩
theorem fld {P : Program} {t : TypeId} {fs : Array Field} {fuel : Nat} {cs : List Value} {x : DataW HH × List MemPlace} (ht : P.underlying t = some (.struct fs)) (h : DataW.trod enc P W base spr held fuel t cs = some x)
    (i : Nat) (f : Field) (hf : fs[i]? = some f) {k : Nat} (hk : P.cellsOf f.type = k) : ∃ n y, DataW.trod enc P W base spr held n f.type ((cs.drop f.offset).take k) = some y := by
  obtain ⟨xs, n, _, _, hl, hlen, hg⟩ := DataW.trod_struct ht h
  have := hg i f hf
  have hi : i < xs.length := by rw [hlen]; exact (Array.getElem?_eq_some_iff.1 hf).1
  rw [List.getElem?_eq_getElem hi, hk] at this
  exact ⟨n, _, this⟩
theorem fldLen {P : Program} {t : TypeId} {fs : Array Field} {fuel : Nat} {cs : List Value} {x : DataW HH × List MemPlace} (ht : P.underlying t = some (.struct fs)) (h : DataW.trod enc P W base spr held fuel t cs = some x) : cs.length = P.cellsOf t := by
  obtain ⟨xs, n, _, _, hl, _⟩ := DataW.trod_struct ht h; exact hl
def U8C (x : UInt8) (c : List Value) : Prop := c = [u8v x]
theorem u8_lis : ∀ {l : List UInt8} {cs : List Value}, LisC U8C l cs → cs = bytesV l
  | [], _, h => h
  | x :: l, _, ⟨c1, c2, h1, h2, h3⟩ => by rw [h1, h2, u8_lis h3]; rfl
theorem u64_of {z : Int} (h : (Lit.int .u64 z).wf = true) : ∃ k : Nat, z = (k : Int) ∧ k < 18446744073709551616 := by
  simp only [Lit.wf, IntKind.min, IntKind.max, IntKind.signed, IntKind.bits, Bool.and_eq_true, decide_eq_true_eq] at h
  simp at h
  exact ⟨z.toNat, by omega, by omega⟩
theorem u8_ofZ {z : Int} (h : (Lit.int .u8 z).wf = true) : ∃ k : UInt8, z = (k.toNat : Int) := by
  simp only [Lit.wf, IntKind.min, IntKind.max, IntKind.signed, IntKind.bits, Bool.and_eq_true, decide_eq_true_eq] at h
  simp at h
  exact ⟨UInt8.ofNat z.toNat, by rw [u8_of (by omega)]; omega⟩
theorem readB {n : Nat} {cs : List Value} {x : DataW HH × List MemPlace} (h : DataW.trod enc Tryz.prog W base spr held n 29 cs = some x) : ∃ v l, cs = [v] ∧ Byt (envW W) v l := by
  obtain ⟨v, l, h1, a, cap, cells, rfl, h3, h4, h5⟩ := read_slice (P1 := U8C) (w := 1) Tryz.underlying29 (by kernel_rfl) (by decide) (fun x c h => by rw [h]; rfl) (fun n cs x h => by
    obtain ⟨k, rfl, -, hwf⟩ := DataW.trod_int Tryz.underlying5 h
    obtain ⟨y, rfl⟩ := u8_ofZ hwf
    exact ⟨y, rfl⟩) h
  rw [u8_lis h5] at h4
  exact ⟨_, l, h1, Im.byt ⟨a, cap, rfl, h3, h4⟩⟩
theorem readAtt {n : Nat} {cs : List Value} {x : DataW HH × List MemPlace} (h : DataW.trod enc Tryz.prog W base spr held n 63 cs = some x) : ∃ a, AttC (envW W) a cs := by
  have hl : cs.length = 6 := (fldLen Tryz.underlying63 h).trans (by kernel_rfl)
  have f := fld Tryz.underlying63 h
  match cs, hl with
  | [c0, c1, c2, c3, c4, c5], _ =>
    obtain ⟨_, _, g0⟩ := f 0 _ rfl (k := 1) (by kernel_rfl)
    obtain ⟨_, _, g1⟩ := f 1 _ rfl (k := 1) (by kernel_rfl)
    obtain ⟨_, _, g2⟩ := f 2 _ rfl (k := 1) (by kernel_rfl)
    obtain ⟨_, _, g3⟩ := f 3 _ rfl (k := 1) (by kernel_rfl)
    obtain ⟨_, _, g4⟩ := f 4 _ rfl (k := 1) (by kernel_rfl)
    obtain ⟨_, _, g5⟩ := f 5 _ rfl (k := 1) (by kernel_rfl)
    obtain ⟨z0, e0, -, -⟩ := DataW.trod_int Tryz.underlying3 g0
    obtain ⟨z1, e1, -, -⟩ := DataW.trod_int Tryz.underlying3 g1
    obtain ⟨b2, e2, -⟩ := DataW.trod_bool Tryz.underlying4 g2
    obtain ⟨z3, e3, -, w3⟩ := DataW.trod_int Tryz.underlying51 g3
    obtain ⟨s4, e4, -, -⟩ := DataW.trod_string Tryz.underlying9 g4
    obtain ⟨v5, l5, e5, hB⟩ := readB g5
    obtain ⟨k3, rfl, hk3⟩ := u64_of w3
    injection e0 with e0; injection e1 with e1; injection e2 with e2; injection e3 with e3; injection e4 with e4; injection e5 with e5
    subst e0 e1 e2 e3 e4 e5
    exact ⟨⟨z0, z1, b2, k3, s4, l5⟩, _, rfl, hB, hk3⟩
theorem readNod {n : Nat} {cs : List Value} {x : DataW HH × List MemPlace} (h : DataW.trod enc Tryz.prog W base spr held n 61 cs = some x) : ∃ a, NodC (envW W) a cs := by
  have hl : cs.length = 4 := (fldLen Tryz.underlying61 h).trans (by kernel_rfl)
  have f := fld Tryz.underlying61 h
  match cs, hl with
  | [c0, c1, c2, c3], _ =>
    obtain ⟨_, _, g0⟩ := f 0 _ rfl (k := 1) (by kernel_rfl)
    obtain ⟨_, _, g1⟩ := f 1 _ rfl (k := 1) (by kernel_rfl)
    obtain ⟨_, _, g2⟩ := f 2 _ rfl (k := 1) (by kernel_rfl)
    obtain ⟨_, _, g3⟩ := f 3 _ rfl (k := 1) (by kernel_rfl)
    obtain ⟨z0, e0, -, -⟩ := DataW.trod_int Tryz.underlying3 g0
    obtain ⟨b1, e1, -⟩ := DataW.trod_bool Tryz.underlying4 g1
    obtain ⟨b2, e2, -⟩ := DataW.trod_bool Tryz.underlying4 g2
    obtain ⟨v, ys, e3, hA⟩ := read_slice (P1 := AttC (envW W)) (w := 6) Tryz.underlying59 (by kernel_rfl) (by decide) (fun _ _ h => h.len) (fun _ _ _ h => readAtt h) g3
    injection e0 with e0; injection e1 with e1; injection e2 with e2; injection e3 with e3
    subst e0 e1 e2 e3
    exact ⟨⟨z0, b1, b2, ys⟩, _, rfl, hA⟩
theorem readUni {n : Nat} {cs : List Value} {x : DataW HH × List MemPlace} (h : DataW.trod enc Tryz.prog W base spr held n 58 cs = some x) : ∃ a, UniC (envW W) a cs := by
  have hl : cs.length = 4 := (fldLen Tryz.underlying58 h).trans (by kernel_rfl)
  have f := fld Tryz.underlying58 h
  match cs, hl with
  | [c0, c1, c2, c3], _ =>
    obtain ⟨_, _, g0⟩ := f 0 _ rfl (k := 1) (by kernel_rfl)
    obtain ⟨_, _, g1⟩ := f 1 _ rfl (k := 1) (by kernel_rfl)
    obtain ⟨_, _, g2⟩ := f 2 _ rfl (k := 1) (by kernel_rfl)
    obtain ⟨_, _, g3⟩ := f 3 _ rfl (k := 1) (by kernel_rfl)
    obtain ⟨z0, e0, -, -⟩ := DataW.trod_int Tryz.underlying3 g0
    obtain ⟨b1, e1, -⟩ := DataW.trod_bool Tryz.underlying4 g1
    obtain ⟨z2, e2, -, -⟩ := DataW.trod_int Tryz.underlying3 g2
    obtain ⟨v, ys, e3, hA⟩ := read_slice (P1 := NodC (envW W)) (w := 4) Tryz.underlying56 (by kernel_rfl) (by decide) (fun _ _ h => h.len) (fun _ _ _ h => readNod h) g3
    injection e0 with e0; injection e1 with e1; injection e2 with e2; injection e3 with e3
    subst e0 e1 e2 e3
    exact ⟨⟨z0, b1, z2, ys⟩, _, rfl, hA⟩
theorem readPie {n : Nat} {cs : List Value} {x : DataW HH × List MemPlace} (h : DataW.trod enc Tryz.prog W base spr held n 107 cs = some x) : ∃ a, PieC a cs := by
  have hl : cs.length = 3 := (fldLen Tryz.underlying107 h).trans (by kernel_rfl)
  have f := fld Tryz.underlying107 h
  match cs, hl with
  | [c0, c1, c2], _ =>
    obtain ⟨_, _, g0⟩ := f 0 _ rfl (k := 1) (by kernel_rfl)
    obtain ⟨_, _, g1⟩ := f 1 _ rfl (k := 1) (by kernel_rfl)
    obtain ⟨_, _, g2⟩ := f 2 _ rfl (k := 1) (by kernel_rfl)
    obtain ⟨z0, e0, -, -⟩ := DataW.trod_int Tryz.underlying3 g0
    obtain ⟨z1, e1, -, w1⟩ := DataW.trod_int Tryz.underlying51 g1
    obtain ⟨z2, e2, -, w2⟩ := DataW.trod_int Tryz.underlying51 g2
    obtain ⟨k1, rfl, -⟩ := u64_of w1
    obtain ⟨k2, rfl, -⟩ := u64_of w2
    injection e0 with e0; injection e1 with e1; injection e2 with e2
    subst e0 e1 e2
    exact ⟨⟨z0, k1, k2⟩, rfl⟩
theorem readSpn {n : Nat} {cs : List Value} {x : DataW HH × List MemPlace} (h : DataW.trod enc Tryz.prog W base spr held n 54 cs = some x) : ∃ a, SpnC (envW W) a cs := by
  have hl : cs.length = 5 := (fldLen Tryz.underlying54 h).trans (by kernel_rfl)
  have f := fld Tryz.underlying54 h
  match cs, hl with
  | [c0, c1, c2, c3, c4], _ =>
    obtain ⟨_, _, g0⟩ := f 0 _ rfl (k := 1) (by kernel_rfl)
    obtain ⟨_, _, g1⟩ := f 1 _ rfl (k := 1) (by kernel_rfl)
    obtain ⟨_, _, g2⟩ := f 2 _ rfl (k := 1) (by kernel_rfl)
    obtain ⟨_, _, g3⟩ := f 3 _ rfl (k := 1) (by kernel_rfl)
    obtain ⟨_, _, g4⟩ := f 4 _ rfl (k := 1) (by kernel_rfl)
    obtain ⟨z0, e0, -, w0⟩ := DataW.trod_int Tryz.underlying51 g0
    obtain ⟨z1, e1, -, w1⟩ := DataW.trod_int Tryz.underlying51 g1
    obtain ⟨b2, e2, -⟩ := DataW.trod_bool Tryz.underlying4 g2
    obtain ⟨b3, e3, -⟩ := DataW.trod_bool Tryz.underlying4 g3
    obtain ⟨v, ys, e4, hA⟩ := read_slice (P1 := PieC) (w := 3) Tryz.underlying52 (by kernel_rfl) (by decide) (fun _ _ h => PieC.len h) (fun _ _ _ h => readPie h) g4
    obtain ⟨k0, rfl, -⟩ := u64_of w0
    obtain ⟨k1, rfl, -⟩ := u64_of w1
    injection e0 with e0; injection e1 with e1; injection e2 with e2; injection e3 with e3; injection e4 with e4
    subst e0 e1 e2 e3 e4
    exact ⟨⟨k0, k1, b2, b3, ys⟩, _, rfl, hA⟩
end
end Go.Proofs.YtdplhbmoidepgaaGreatDoor
namespace Go.Proofs.YtdplhbmoidepgaaGreatDoor
open Go Go.Sl Go.ChangeShapes Go.WideShapes Go.ChangeMaps Go.WideElems
set_option maxRecDepth 100000
set_option maxHeartbeats 4000000

theorem mem_foldr {HH : Type} {y : Lit × DataW HH} : ∀ {l : List (Lit × DataW HH)}, y ∈ l.foldr DataW.insert [] ↔ y ∈ l
  | [] => by simp
  | x :: l => by rw [List.foldr_cons, mem_insert_iff, mem_foldr, List.mem_cons]
section
variable {W : World} {base : Nat} {spr : Nat → Bool} {held : Bool}
/-- The entries of a map of numbers, and what the datum tells of them. -/
theorem map_ints {P : Program} {k : TypeId} {kk : IntKind} {R : Value → Option (DataW Unit × List MemPlace)} {es : Array MapEntry} {clock : Nat} {D : List (Lit × DataW Unit)} (hk : P.underlying k = some (.int kk)) (F : Fit P k R es clock)
    (hD : (es.toList.map (rg P k R)).foldr DataW.insert [] = D) :
    keysOf kk es.toList ∧ (∀ x ∈ es.toList, ∃ z y, x.key = .int kk z ∧ R x.val = some y ∧ (Lit.int kk z, y.1) ∈ D) ∧ (∀ z d, (Lit.int kk z, d) ∈ D → ∃ x ∈ es.toList, x.key = .int kk z) := by
  have h1 : ∀ x ∈ es.toList, ∃ z y, x.key = .int kk z ∧ R x.val = some y ∧ rg P k R x = (Lit.int kk z, y.1) := fun x hx => by
    obtain ⟨y, hy⟩ := F.reads x hx
    have hkey := rd_key hy
    obtain ⟨v, hv, he⟩ := rd_val hy
    have hrg := rg_of hy
    unfold keyOf mapKey at hkey
    rw [hk] at hkey
    simp only at hkey
    cases hxk : x.key <;> rw [hxk] at hkey <;> simp only at hkey <;> try (cases hkey)
    next q n =>
      split at hkey
      · next hc =>
        obtain ⟨rfl, -⟩ := hc
        injection hkey with hkey
        refine ⟨n, v, rfl, hv, ?_⟩
        rw [hrg, hkey, ← he]
      · cases hkey
  refine ⟨fun x hx => ?_, fun x hx => ?_, fun z d hd => ?_⟩
  · obtain ⟨z, _, hz, _⟩ := h1 x hx; exact ⟨z, hz⟩
  · obtain ⟨z, y, hz, hv, hr⟩ := h1 x hx
    refine ⟨z, y, hz, hv, ?_⟩
    rw [← hD, mem_foldr, ← hr]
    exact List.mem_map_of_mem hx
  · rw [← hD, mem_foldr] at hd
    obtain ⟨x, hx, hr⟩ := List.mem_map.1 hd
    obtain ⟨z', y, hz, hv, hr2⟩ := h1 x hx
    rw [hr2] at hr
    injection hr with hr1 hr3
    injection hr1 with _ hr1
    exact ⟨x, hx, by rw [hz, hr1]⟩
theorem mfind_mem {z : Int} {kk : IntKind} : ∀ {l : List MapEntry} {i j : Nat} {v : Value}, keysOf kk l → mfind z l i = some (j, v) → ∃ x ∈ l, x.key = .int kk z ∧ x.val = v
  | [], _, _, _, _, h => by cases h
  | e :: l, i, j, v, hk, h => by
    obtain ⟨y, hy⟩ := hk e (List.mem_cons_self ..)
    simp only [mfind, hy] at h
    cases hb : z == y with
    | true =>
      rw [hb] at h
      injection h with h; injection h with h1 h2
      have := eq_of_beq hb
      subst this
      exact ⟨e, List.mem_cons_self .., hy, h2⟩
    | false =>
      rw [hb] at h
      obtain ⟨x, hx, h1, h2⟩ := mfind_mem (fun x hx => hk x (List.mem_cons_of_mem _ hx)) h
      exact ⟨x, List.mem_cons_of_mem _ hx, h1, h2⟩
theorem mfind_none {z : Int} {kk : IntKind} : ∀ {l : List MapEntry} {i : Nat}, keysOf kk l → mfind z l i = none → ∀ x ∈ l, x.key ≠ .int kk z
  | [], _, _, _, x, hx => by simp at hx
  | e :: l, i, hk, h, x, hx => by
    obtain ⟨y, hy⟩ := hk e (List.mem_cons_self ..)
    simp only [mfind, hy] at h
    cases hb : z == y with
    | true => rw [hb] at h; cases h
    | false =>
      rw [hb] at h
      rcases List.mem_cons.1 hx with rfl | hx
      · rw [hy]; intro e; injection e with _ e; subst e; simp at hb
      · exact mfind_none (fun x hx => hk x (List.mem_cons_of_mem _ hx)) h x hx
end

abbrev laidAll : List (String × DataW Unit) := [("math/bits.deBruijn32tab", Rows.laid_math_bits_deBruijn32tab), ("math/bits.deBruijn64tab", Rows.laid_math_bits_deBruijn64tab), ("internal/strconv.uint64pow10", Rows.laid_internal_strconv_uint64pow10), ("io.EOF", Rows.laid_io_EOF), ("loop.example/pub-g03041/pub/dwarf.attrIsExprloc", Rows.laid_loop_example_pub_g03041_pub_dwarf_attrIsExprloc), ("loop.example/pub-g03041/pub/dwarf.attrPtrClass", Rows.laid_loop_example_pub_g03041_pub_dwarf_attrPtrClass), ("loop.example/pub-g03041/pub/dwarf.ErrUnknownPC", Rows.laid_loop_example_pub_g03041_pub_dwarf_ErrUnknownPC)]
theorem gExpr : Tryz.prog.globalNamed "loop.example/pub-g03041/pub/dwarf.attrIsExprloc" = some 2 := by kernel_rfl
theorem gPtr : Tryz.prog.globalNamed "loop.example/pub-g03041/pub/dwarf.attrPtrClass" = some 3 := by kernel_rfl
theorem glob_of_laid {W : World} (h : laidMetH Tryz.prog laidAll W) : Glob (envW W) := by
  rw [MakeChecks.laidMetH_plain _ _ _ (by kernel_rfl)] at h
  obtain ⟨ps, ⟨g0, t0, cs0, f0, p0, q0, hg0, ht0, hv0, hd0, ⟨g1, t1, cs1, f1, p1, q1, hg1, ht1, hv1, hd1, ⟨g2, t2, cs2, f2, p2, q2, hg2, ht2, hv2, hd2, ⟨g3, t3, cs3, f3, p3, q3, hg3, ht3, hv3, hd3, ⟨g4, t4, cs4, f4, p4, q4, hg4, ht4, hv4, hd4, ⟨g5, t5, cs5, f5, p5, q5, hg5, ht5, hv5, hd5, -⟩, -⟩, -⟩, -⟩, -⟩, -⟩, -, -⟩ := h
  clear hd0 hd1 hd2 hd3 hv0 hv1 hv2 hv3 hg0 hg1 hg2 hg3 ht0 ht1 ht2 ht3
  obtain rfl := Option.some.inj (gExpr.symm.trans hg4)
  obtain rfl := Option.some.inj (gPtr.symm.trans hg5)
  obtain rfl := Option.some.inj ((show (Tryz.prog.globals[2]?).map (·.type) = some 259 by kernel_rfl).symm.trans ht4)
  obtain rfl := Option.some.inj ((show (Tryz.prog.globals[3]?).map (·.type) = some 261 by kernel_rfl).symm.trans ht5)
  constructor
  · rcases Go.WideElems.open_map Tryz.underlying259 hd4 with ⟨_, hx⟩ | ⟨b, es, clock, n, -, hcs, hb, -, F, hx⟩
    · have := (Prod.mk.inj hx).1
      unfold Rows.laid_loop_example_pub_g03041_pub_dwarf_attrIsExprloc at this
      cases this
    have hD := (Prod.mk.inj hx).1
    unfold Rows.laid_loop_example_pub_g03041_pub_dwarf_attrIsExprloc at hD
    injection hD with hD
    obtain ⟨hkeys, hmem, hback⟩ := map_ints (kk := .u32) Tryz.underlying155 F hD.symm
    have hDm : ∀ y, y ∈ exprAttrs.map (fun a => (Lit.int .u32 a, (DataW.lit (.bool true) : DataW Unit))) ↔ y ∈ _ := fun y => Iff.rfl
    have hcell := World.var?_cell hg4 hv4 0
    rw [Array.eq_one_of_toList hcs] at hcell
    refine ⟨b, es.toList, clock, (envW_cell hcell).2, by show W.heap[b]? = _; rw [hb], hkeys, fun a => ?_⟩
    cases hm : mfind a es.toList 0 with
    | none =>
      have hn := mfind_none hkeys hm
      have : exprAttrs.contains a = false := by
        rw [← Bool.not_eq_true]
        intro hc
        have ha : a ∈ exprAttrs := by simpa using hc
        obtain ⟨x, hx, hk⟩ := hback a (.lit (.bool true)) ((hDm _).1 (List.mem_map_of_mem (f := fun a => (Lit.int .u32 a, (DataW.lit (.bool true) : DataW Unit))) ha))
        exact hn x hx hk
      rw [this]; rfl
    | some jv =>
      obtain ⟨j, v⟩ := jv
      obtain ⟨x, hx, hk, hv⟩ := mfind_mem hkeys hm
      obtain ⟨z, y, hz, hR, hy⟩ := hmem x hx
      rw [hk] at hz
      injection hz with _ hz
      subst hz
      obtain ⟨a', ha', e⟩ := List.mem_map.1 ((hDm _).2 hy)
      injection e with e1 e2
      injection e1 with _ e1
      subst e1
      have hc : exprAttrs.contains a' = true := by simpa using ha'
      unfold elemAt at hR
      split at hR
      · next hf =>
        obtain ⟨bb, g1, g2⟩ := DataW.trod_bool Tryz.underlying4 hR
        rw [g2] at e2
        injection e2 with e2; injection e2 with e2
        subst e2
        rw [hc]
        show v = _
        rw [← hv]
        cases hxv : x.val <;> rw [hxv] at g1 hf <;> simp [Value.cells] at g1
        · rw [g1]
        · simp [Value.formed, Tryz.underlying4] at hf
      · cases hR
  · rcases Go.WideElems.open_map Tryz.underlying261 hd5 with ⟨_, hx⟩ | ⟨b, es, clock, n, -, hcs, hb, -, F, hx⟩
    · have := (Prod.mk.inj hx).1
      unfold Rows.laid_loop_example_pub_g03041_pub_dwarf_attrPtrClass at this
      cases this
    have hD := (Prod.mk.inj hx).1
    unfold Rows.laid_loop_example_pub_g03041_pub_dwarf_attrPtrClass at hD
    injection hD with hD
    obtain ⟨hkeys, hmem, hback⟩ := map_ints (kk := .u32) Tryz.underlying155 F hD.symm
    have hDm : ∀ y, y ∈ ptrTable.map (fun p => (Lit.int .u32 p.1, (DataW.lit (.int .i64 p.2) : DataW Unit))) ↔ y ∈ _ := fun y => Iff.rfl
    have hcell := World.var?_cell hg5 hv5 0
    rw [Array.eq_one_of_toList hcs] at hcell
    refine ⟨b, es.toList, clock, (envW_cell hcell).2, by show W.heap[b]? = _; rw [hb], hkeys, fun a => ?_⟩
    cases hm : mfind a es.toList 0 with
    | none =>
      have hn := mfind_none hkeys hm
      have : ptrC a = none := by
        unfold ptrC
        rw [Option.map_eq_none_iff, List.find?_eq_none]
        intro p hp hc
        have he := eq_of_beq hc
        subst he
        obtain ⟨x, hx, hk⟩ := hback p.1 (.lit (.int .i64 p.2)) ((hDm _).1 (List.mem_map_of_mem (f := fun p => (Lit.int .u32 p.1, (DataW.lit (.int .i64 p.2) : DataW Unit))) hp))
        exact hn x hx hk
      rw [this]; rfl
    | some jv =>
      obtain ⟨j, v⟩ := jv
      obtain ⟨x, hx, hk, hv⟩ := mfind_mem hkeys hm
      obtain ⟨z, y, hz, hR, hy⟩ := hmem x hx
      rw [hk] at hz
      injection hz with _ hz
      subst hz
      obtain ⟨p, hp, e⟩ := List.mem_map.1 ((hDm _).2 hy)
      injection e with e1 e2
      injection e1 with _ e1
      subst e1
      have hc : ptrC p.1 = some p.2 := (by decide : ∀ p ∈ ptrTable, ptrC p.1 = some p.2) p hp
      unfold elemAt at hR
      split at hR
      · next hf =>
        obtain ⟨bb, g1, g2, -⟩ := DataW.trod_int Tryz.underlying158 hR
        rw [g2] at e2
        injection e2 with e2; injection e2 with _ e2
        subst e2
        rw [hc]
        show Value.tuple #[v, .bool true] = _
        rw [← hv]
        cases hxv : x.val <;> rw [hxv] at g1 hf <;> simp [Value.cells] at g1
        · rw [g1.1, g1.2]; rfl
        · simp [Value.formed, Tryz.underlying158] at hf
      · cases hR
end Go.Proofs.YtdplhbmoidepgaaGreatDoor
namespace Go.Proofs.YtdplhbmoidepgaaGreatDoor
open Go Go.Sl Go.ChangeShapes Go.WideShapes Go.ChangeMaps Go.WideElems Go.RowKit
set_option maxRecDepth 100000
set_option maxHeartbeats 4000000
section
variable {HH : Type} {enc : TypeId × Value → HH} {P : Program} {W W' : World}
/-- All blocks are as they were. -/
def Ext (W W' : World) : Prop := ∀ (b : Nat) (o : Obj), W.heap[b]? = some o → W'.heap[b]? = some o
theorem Ext.same (h : Ext W W') {p : MemPlace} (hp : p.block < W.heap.size) : W.sameAt W' p := by
  obtain ⟨o, ho⟩ : ∃ o, W.heap[p.block]? = some o := ⟨_, Array.getElem?_eq_getElem hp⟩
  have := h _ _ ho
  cases p with
  | cell b off =>
    show W'.cell? _ = W.cell? _
    simp only [World.cell?, MemPlace.block] at *
    rw [ho, this]
  | map b =>
    show W'.heap[b]? = W.heap[b]?
    simp only [MemPlace.block] at *
    rw [ho, this]
theorem Ext.var (h : Ext W W') {n : String} {cs : Array Value} (hv : W.var? P n = some cs) : W'.var? P n = some cs := by
  unfold World.var? at hv ⊢
  cases hg : P.globalNamed n with
  | none => rw [hg] at hv; cases hv
  | some g =>
    rw [hg] at hv
    simp only [Option.bind_some] at hv ⊢
    cases ho : W.heap[g]? with
    | none => rw [ho] at hv; cases hv
    | some o => rw [ho] at hv; rw [h _ _ ho]; exact hv
theorem trodAll_keep (hl : laidOutB P = true) {sp : Nat → Bool} : ∀ {ts : List TypeId} {vs : List Value} {ds : List (DataW HH)} {ps : List MemPlace}, (∀ t ∈ ts, P.readableRec t = true ∧ t < P.types.size) →
    DataW.TrodAll enc P W 0 (fun _ => true) true ts vs ds ps → (∀ p ∈ ps, W.sameAt W' p) → (∀ p ∈ ps, sp p.block = true) → DataW.TrodAll enc P W' 0 sp true ts vs ds ps
  | [], [], [], _, _, h, _, _ => h
  | t :: ts, v :: vs, d :: ds, ps, ht, ⟨p, q, h1, h2, e⟩, hs, hb => by
    subst e
    exact ⟨p, q, Trod_stays hl (ht t (List.mem_cons_self ..)).1 (ht t (List.mem_cons_self ..)).2 h1 (fun x hx => hs x (List.mem_append_left _ hx)) (fun x hx => hb x (List.mem_append_left _ hx)),
      trodAll_keep hl (fun t h => ht t (List.mem_cons_of_mem _ h)) h2 (fun x hx => hs x (List.mem_append_right _ hx)) (fun x hx => hb x (List.mem_append_right _ hx)), rfl⟩
theorem trodVars_keep (hl : laidOutB P = true) {sp : Nat → Bool} (hE : Ext W W') : ∀ {ns : List String} {gs : List (DataW HH)} {ps : List MemPlace}, (∀ n ∈ ns, ∀ g t, P.globalNamed n = some g → (P.globals[g]?).map (·.type) = some t → P.readableRec t = true ∧ t < P.types.size) →
    DataW.TrodVars enc P W (fun _ => true) ns gs ps → (∀ p ∈ ps, W.sameAt W' p) → (∀ p ∈ ps, sp p.block = true) → DataW.TrodVars enc P W' sp ns gs ps
  | [], [], _, _, h, _, _ => h
  | n :: ns, d :: ds, ps, ht, ⟨g, t, cs, fuel, p, q, h1, h2, h3, h4, h5, e⟩, hs, hb => by
    subst e
    obtain ⟨hr, hrow⟩ := ht n (List.mem_cons_self ..) g t h1 h2
    exact ⟨g, t, cs, fuel, p, q, h1, h2, hE.var h3, DataW.trod_stays (kids_book hl hr) (book_sized hr) (fun h => by cases h) ⟨hrow, book_self t⟩ h4 (fun x hx => hs x (by simp [hx])) (fun x hx => hb x (by simp [hx])),
      trodVars_keep hl hE (fun n h => ht n (List.mem_cons_of_mem _ h)) h5 (fun x hx => hs x (by simp [hx])) (fun x hx => hb x (by simp [hx])), rfl⟩
theorem post_ext {f : Func} {s : ChangeSpec} {apart fresh handsOn : Bool} {args : Array Value} {ds gs : List (DataW HH)} {before : List MemPlace} {tb : TypeId} (hl : laidOutB P = true)
    (hW : DataW.Whole enc P f.params.toList s.vars apart W args.toList ds gs before) (hE : Ext W W') (hos : W'.os = W.os) (hout : W'.output = W.output)
    (hpar : ∀ t ∈ f.params.toList, P.readableRec t = true ∧ t < P.types.size) (hvar : ∀ n ∈ s.vars, ∀ g t, P.globalNamed n = some g → (P.globals[g]?).map (·.type) = some t → P.readableRec t = true ∧ t < P.types.size)
    (hres : f.resultTypes = #[tb]) (hb : P.underlying tb = some .bool) (hfn : s.fn HH (ds ++ gs) = { results := [.lit (.bool true)], args := ds, vars := gs }) :
    s.post enc P f apart fresh handsOn false W args (.bool true) W' := by
  have hlt := hW.lt
  have hW2 := hW
  obtain ⟨p, q, h1, h2, rfl, hz, hn⟩ := hW2
  have hs : ∀ x ∈ p ++ q, W.sameAt W' x := fun x hx => hE.same (hlt x hx)
  have hsp : ∀ x ∈ p ++ q, (fun b => decide (b < W.heap.size)) x.block = true := fun x hx => by simpa using hlt x hx
  refine ⟨ds, gs, p ++ q, [], p, q, hW, ?_, ?_, ?_, ⟨hos, hout, fun i hi => ?_⟩, fun h => by cases h⟩
  · rw [hres, hfn]
    exact trodAll_mk1 (shut_bool hb _)
  · rw [hfn]
    exact trodAll_keep hl hpar h1 (fun x hx => hs x (List.mem_append_left _ hx)) (fun x hx => hsp x (List.mem_append_left _ hx))
  · rw [hfn]
    exact trodVars_keep hl hE hvar h2 (fun x hx => hs x (List.mem_append_right _ hx)) (fun x hx => hsp x (List.mem_append_right _ hx))
  · obtain ⟨o, ho⟩ : ∃ o, W.heap[i]? = some o := ⟨_, Array.getElem?_eq_getElem hi⟩
    rw [ho, hE _ _ ho]
    cases o <;> simp
end
/-- What a contract says of a world. -/
theorem calls_of_spc {P : Program} {f : FuncId} {args : Array Value} {W : World} {post : Value → Env → List Blk → Prop} (h : Spc P f args (envW W) [] post) (hp : ∀ v Γ H, post v Γ H → v = .bool true) :
    Calls P f args W (fun e W' => e = .returned (.bool true) ∧ Ext W W' ∧ W'.os = W.os ∧ W'.output = W.output) :=
  (h.go W (envW_st W)).mono fun e W' ⟨v, Γ', H', he, hle, hst, hq⟩ => by
    have := hp v Γ' H' hq
    subst this
    exact ⟨he, fun b o hb => hst.imm b o (hle.imm b o hb), hst.os.trans hle.os, hst.output.trans hle.output⟩
end Go.Proofs.YtdplhbmoidepgaaGreatDoor
namespace Go.Proofs.YtdplhbmoidepgaaGreatDoor
open Go Go.Sl Go.ChangeShapes Go.WideShapes Go.ChangeMaps Go.WideElems Go.RowKit
set_option maxRecDepth 100000
set_option maxHeartbeats 4000000

theorem own : ownKnob Tryz.prog.godebug = none := by kernel_rfl
theorem laidOut_ok : laidOutB Tryz.prog = true := by kernel_rfl
theorem door_met (os : Os) (args : Array Value) : laidMetH Tryz.prog laidAll ((World.doorLaid Tryz.prog 400 os).forCall (fun _ _ => 0) ⟨#[], args, []⟩).memory :=
  laidMetH_of_parts3 (fuel := 8) (laidMet_of_run' 8 (by kernel_rfl) (by kernel_rfl)) (by kernel_rfl) (by kernel_rfl)
noncomputable def readableVar (n : String) : Bool := match Tryz.prog.globalNamed n with
  | some g => match Tryz.prog.globals[g]? with
    | some x => Tryz.prog.readableRec x.type && decide (x.type < Tryz.prog.types.size)
    | none => true
  | none => true
theorem readableVar_ok {ns : List String} (h : ns.all readableVar = true) : ∀ n ∈ ns, ∀ g t, Tryz.prog.globalNamed n = some g → (Tryz.prog.globals[g]?).map (·.type) = some t → Tryz.prog.readableRec t = true ∧ t < Tryz.prog.types.size := fun n hn g t hg ht => by
  have h1 := List.all_eq_true.1 h n hn
  unfold readableVar at h1
  rw [hg] at h1
  simp only at h1
  cases hx : Tryz.prog.globals[g]? with
  | none => rw [hx] at ht; cases ht
  | some x =>
    rw [hx] at ht h1
    injection ht with ht
    simp only [Bool.and_eq_true, decide_eq_true_eq] at h1
    rw [← ht]; exact h1
theorem readablePar_ok {ts : List TypeId} (h : (ts.all fun t => Tryz.prog.readableRec t && decide (t < Tryz.prog.types.size)) = true) : ∀ t ∈ ts, Tryz.prog.readableRec t = true ∧ t < Tryz.prog.types.size := fun t ht => by
  have := List.all_eq_true.1 h t ht
  simpa using this
theorem trodVars_len {HH : Type} {enc : TypeId × Value → HH} {P : Program} {W : World} {sp : Nat → Bool} : ∀ {ns : List String} {gs : List (DataW HH)} {ps : List MemPlace}, DataW.TrodVars enc P W sp ns gs ps → gs.length = ns.length
  | [], [], _, _ => rfl
  | _ :: ns, _ :: gs, _, ⟨_, _, _, _, _, _, _, _, _, _, h, _⟩ => by rw [List.length_cons, trodVars_len h, List.length_cons]
section
variable {HH : Type} {enc : TypeId × Value → HH} {W : World} {base : Nat} {spr : Nat → Bool} {held : Bool} {r : Reach} {b0 : Nat}
theorem openLay {v : Value} {d : DataW HH} {p : List MemPlace} (hv : Value.okWide Tryz.prog W r b0 23 v) (h : DataW.Trod enc Tryz.prog W base spr held 23 v d p) : ∃ l, v = layV l := by
  obtain ⟨cs, rfl, hsz⟩ := okWide_struct Tryz.underlying23 hv
  obtain ⟨n, h⟩ := h
  have hl : cs.toList.length = 5 := by rw [Array.length_toList, hsz]; kernel_rfl
  have f := fld Tryz.underlying23 h
  obtain ⟨cs⟩ := cs
  match cs, hl, f with
  | [c0, c1, c2, c3, c4], _, f =>
    obtain ⟨_, _, g0⟩ := f 0 _ rfl (k := 1) (by kernel_rfl)
    obtain ⟨_, _, g1⟩ := f 1 _ rfl (k := 1) (by kernel_rfl)
    obtain ⟨_, _, g2⟩ := f 2 _ rfl (k := 1) (by kernel_rfl)
    obtain ⟨_, _, g3⟩ := f 3 _ rfl (k := 1) (by kernel_rfl)
    obtain ⟨_, _, g4⟩ := f 4 _ rfl (k := 1) (by kernel_rfl)
    obtain ⟨z0, e0, -, -⟩ := DataW.trod_int Tryz.underlying3 g0
    obtain ⟨b1, e1, -⟩ := DataW.trod_bool Tryz.underlying4 g1
    obtain ⟨z2, e2, -, -⟩ := DataW.trod_int Tryz.underlying3 g2
    obtain ⟨b3, e3, -⟩ := DataW.trod_bool Tryz.underlying4 g3
    obtain ⟨b4, e4, -⟩ := DataW.trod_bool Tryz.underlying4 g4
    injection e0 with e0; injection e1 with e1; injection e2 with e2; injection e3 with e3; injection e4 with e4
    subst e0 e1 e2 e3 e4
    exact ⟨⟨z0, b1, z2, b3, b4⟩, rfl⟩
theorem openSpans {v : Value} {d : DataW HH} {p : List MemPlace} (hv : Value.okWide Tryz.prog W r b0 24 v) (h : DataW.Trod enc Tryz.prog W base spr held 24 v d p) : ∃ ys, Arr (envW W) (SpnC (envW W)) v ys := by
  obtain ⟨a, n, c, rfl⟩ := okWide_slice Tryz.underlying24 hv
  obtain ⟨n, h⟩ := h
  obtain ⟨v, ys, e, hA⟩ := read_slice (P1 := SpnC (envW W)) (w := 5) Tryz.underlying24 (by kernel_rfl) (by decide) (fun _ _ h => h.len) (fun _ _ _ h => readSpn h) h
  injection e with e
  subst e
  exact ⟨ys, hA⟩
theorem openUnits {v : Value} {d : DataW HH} {p : List MemPlace} (hv : Value.okWide Tryz.prog W r b0 25 v) (h : DataW.Trod enc Tryz.prog W base spr held 25 v d p) : ∃ ys, Arr (envW W) (UniC (envW W)) v ys := by
  obtain ⟨a, n, c, rfl⟩ := okWide_slice Tryz.underlying25 hv
  obtain ⟨n, h⟩ := h
  obtain ⟨v, ys, e, hA⟩ := read_slice (P1 := UniC (envW W)) (w := 4) Tryz.underlying25 (by kernel_rfl) (by decide) (fun _ _ h => h.len) (fun _ _ _ h => readUni h) h
  injection e with e
  subst e
  exact ⟨ys, hA⟩
end
end Go.Proofs.YtdplhbmoidepgaaGreatDoor
