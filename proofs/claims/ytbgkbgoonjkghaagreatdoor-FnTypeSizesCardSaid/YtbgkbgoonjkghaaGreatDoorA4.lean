/- Parts of the proof: Fc Ab Pa Pb Pu Pv Av Sp Ea. -/
import Derived.Test.YtbgkbgoonjkghaaGreatDoorA3
import Derived.LoopN
namespace Go.Proofs.YtbgkbgoonjkghaaGreatDoor
open Go Go.Sl
set_option maxRecDepth 10000
set_option maxHeartbeats 40000000
def exprAttrs : List Int := [2, 11, 12, 13, 25, 34, 42, 46, 47, 55, 56, 64, 70, 72, 74, 77, 78, 79, 80, 81]
def ptrTable : List (Int × Int) := [(2, 7), (16, 6), (25, 7), (42, 7), (44, 9), (56, 7), (64, 7), (67, 8), (70, 7), (72, 7), (74, 7), (77, 7), (85, 9), (114, 19), (115, 15), (116, 18), (140, 7)]
def ptrC (a : Int) : Option Int := (ptrTable.find? fun x => a == x.1).map Prod.snd
structure Glob (Γ : Env) : Prop where
 expr : ∃ r es c, Γ.cell 2 0 = some (.map (some r)) ∧ Γ.imm r = some (.map (es : List MapEntry).toArray c) ∧ keysOf .u32 es ∧ ∀ a, mres (.bool false) false (mfind a es 0) = .bool (exprAttrs.contains a)
 ptr : ∃ r es c, Γ.cell 3 0 = some (.map (some r)) ∧ Γ.imm r = some (.map (es : List MapEntry).toArray c) ∧ keysOf .u32 es ∧ ∀ a, mres (.int .i64 0) true (mfind a es 0) = .tuple #[.int .i64 ((ptrC a).getD 0), .bool (ptrC a).isSome]
theorem Glob.mono {Γ Γ' : Env} (h : Glob Γ) (hle : Γ.le Γ') : Glob Γ' := by
 obtain ⟨⟨r, es, c, h1, h2, h3⟩, ⟨r', es', c', g1, g2, g3⟩⟩ := h
 exact ⟨⟨r, es, c, hle.cell h1, hle.imm _ _ h2, h3⟩, ⟨r', es', c', hle.cell g1, hle.imm _ _ g2, g3⟩⟩
def formsK : List Nat := [22, 1, 10, 3, 4, 9, 11, 5, 6, 7, 13, 15, 33, 12, 25, 16, 17, 18, 19, 20, 21, 32, 8, 14, 31, 23, 24]
def formClass (f : Nat) (a : Int) (vers : Int) : Int :=
 if f = 22 then 0 else if f = 1 then 1 else if f = 10 ∨ f = 3 ∨ f = 4 ∨ f = 9 then (bif exprAttrs.contains a then 4 else 2)
 else if f = 11 ∨ f = 5 ∨ f = 6 ∨ f = 7 ∨ f = 13 ∨ f = 15 ∨ f = 33 then (bif decide (vers < 4) && (ptrC a).isSome then (ptrC a).getD 0 else 3)
 else if f = 12 ∨ f = 25 then 5 else if f = 16 ∨ f = 17 ∨ f = 18 ∨ f = 19 ∨ f = 20 ∨ f = 21 then 10 else if f = 32 then 11 else if f = 8 ∨ f = 14 ∨ f = 31 then 12
 else if f = 23 then (bif (ptrC a).isSome then (ptrC a).getD 0 else 0) else 4
theorem formToClass_ok {Γ : Env} {H : List Blk} (hG : Glob Γ) {f : Nat} (hf : f ∈ formsK) (a vers : Int) (pb : Value) :
  Spc Tryz.prog 107 #[.int .u32 f, .int .u32 a, .int .i64 vers, pb] Γ H (fun v Γ' H' => v = .int .i64 (formClass f a vers) ∧ Γ = Γ' ∧ H = H') := by
 obtain ⟨⟨r, es, c, h1, h2, h3, h4⟩, ⟨r', es', c', g1, g2, g3, g4⟩⟩ := hG
 simp only [formsK, List.mem_cons, List.not_mem_nil, or_false] at hf
 refine Spc.body4 Tryz.func107 rfl Tryz.ntmps107 rfl ?_
 rcases hf with rfl | rfl | hf
 ·refine go_ ?_
  exact end_1 rfl rfl (Env.le.rfl' _) ⟨rfl, rfl, rfl⟩
 ·refine go_ ?_
  exact end_1 rfl rfl (Env.le.rfl' _) ⟨rfl, rfl, rfl⟩
 rcases hf with rfl | rfl | rfl | rfl | hf
 iterate 4
  ·refine go_ ?_
   refine WL.lookup tab_ok rfl rfl rfl rfl rfl (.inl h2) h3 (h4 a) rfl ?_
   refine go_ ?_
   refine WC.condS rfl (fun hc => ?_) (fun hc => ?_)
   ·refine go_ ?_
    exact end_1 rfl rfl (Env.le.rfl' _) ⟨by simp only [formClass, hc]; rfl, rfl, rfl⟩
   ·refine go_ ?_
    exact end_1 rfl rfl (Env.le.rfl' _) ⟨by simp only [formClass, hc]; rfl, rfl, rfl⟩
 rcases hf with rfl | rfl | rfl | rfl | rfl | rfl | rfl | hf
 iterate 7
  ·refine go_ ?_
   refine WL.lookup tab_ok rfl rfl rfl rfl rfl (.inl g2) g3 (g4 a) rfl ?_
   refine go_ ?_
   cases hv : decide (vers < 4) with
   | false =>
    refine WL.no rfl rfl rfl rfl rfl ?_
    refine go_ ?_
    exact end_1 rfl rfl (Env.le.rfl' _) ⟨by simp only [formClass, hv]; rfl, rfl, rfl⟩
   | true =>
    refine go_ ?_
    refine WC.condS rfl (fun hc => ?_) (fun hc => ?_)
    ·refine go_ ?_
     exact end_1 rfl rfl (Env.le.rfl' _) ⟨by simp only [formClass, hv, hc]; rfl, rfl, rfl⟩
    ·refine go_ ?_
     exact end_1 rfl rfl (Env.le.rfl' _) ⟨by simp only [formClass, hv, hc]; rfl, rfl, rfl⟩
 rcases hf with rfl | rfl | rfl | rfl | rfl | rfl | rfl | rfl | rfl | rfl | rfl | rfl | hf
 iterate 12
  ·refine go_ ?_
   exact end_1 rfl rfl (Env.le.rfl' _) ⟨rfl, rfl, rfl⟩
 rcases hf with rfl | rfl
 ·refine go_ ?_
  refine WL.lookup tab_ok rfl rfl rfl rfl rfl (.inl g2) g3 (g4 a) rfl ?_
  refine go_ ?_
  refine WC.condS rfl (fun hc => ?_) (fun hc => ?_)
  ·refine go_ ?_
   exact end_1 rfl rfl (Env.le.rfl' _) ⟨by simp only [formClass, hc]; rfl, rfl, rfl⟩
  ·refine go_ ?_
   exact end_1 rfl rfl (Env.le.rfl' _) ⟨by simp only [formClass, hc]; rfl, rfl, rfl⟩
 ·refine go_ ?_
  exact end_1 rfl rfl (Env.le.rfl' _) ⟨rfl, rfl, rfl⟩
end Go.Proofs.YtbgkbgoonjkghaaGreatDoor
namespace Go.Sl
open Go
def ulebL (n : Nat) : List UInt8 := if h : n < 128 then [UInt8.ofNat n] else UInt8.ofNat (n % 128 + 128) :: ulebL (n / 128)
termination_by n
decreasing_by omega
theorem ulebL_small {n : Nat} (h : n < 128) : ulebL n = [UInt8.ofNat n] := by rw [ulebL, dif_pos h]
theorem ulebL_big {n : Nat} (h : ¬ n < 128) : ulebL n = UInt8.ofNat (n % 128 + 128) :: ulebL (n / 128) := by rw [ulebL, dif_neg h]
theorem IsLeb.one {b : UInt8} (h : b.toNat < 128) : IsLeb [b] := ⟨by simp, fun i c e => by
 cases i with
 | zero => injection e with e; subst e; exact ⟨fun _ => rfl, fun _ => h⟩
 | succ i => simp at e⟩
theorem IsLeb.cons {b : UInt8} {l : List UInt8} (h : 128 ≤ b.toNat) (hl : IsLeb l) : IsLeb (b :: l) := ⟨by simp, fun i c e => by
 have hne := List.length_pos_iff.2 hl.1
 cases i with
 | zero => injection e with e; subst e; simp only [List.length_cons]; omega
 | succ i => rw [List.length_cons]; have := hl.2 i c (by simpa using e); omega⟩
theorem u8_of {n : Nat} (h : n < 256) : (UInt8.ofNat n).toNat = n := by simp; omega
theorem ulebL_ok (n : Nat) : IsLeb (ulebL n) ∧ lebV (ulebL n) = n := by
 induction n using Nat.strongRecOn with
 | _ n ih =>
  by_cases h : n < 128
  ·rw [ulebL_small h]
   have := u8_of (n := n) (by omega)
   refine ⟨IsLeb.one (by omega), ?_⟩
   simp only [lebV, this]; omega
  ·rw [ulebL_big h]
   obtain ⟨h1, h2⟩ := ih (n / 128) (by omega)
   have := u8_of (n := n % 128 + 128) (by omega)
   refine ⟨IsLeb.cons (by omega) h1, ?_⟩
   simp only [lebV, this, h2]; omega
theorem ulebL_len : ∀ (k n : Nat), n < 128 ^ (k + 1) → (ulebL n).length ≤ k + 1
 | 0, n, h => by rw [ulebL_small (by simpa using h)]; simp
 | k + 1, n, h => by
  by_cases h1 : n < 128
  ·rw [ulebL_small h1]; simp
  ·rw [ulebL_big h1, List.length_cons]
   have := ulebL_len k (n / 128) (Nat.div_lt_of_lt_mul (by rw [Nat.pow_succ] at h; omega))
   omega
theorem ulebL_len10 {n : Nat} (h : n < 2 ^ 64) : (ulebL n).length ≤ 10 := ulebL_len 9 n (Nat.lt_of_lt_of_le h (by decide))
theorem ulebL_pos (n : Nat) : 0 < (ulebL n).length := List.length_pos_iff.2 (ulebL_ok n).1.1
def slebL (z : Int) : List UInt8 :=
 if h : (z / 128 = 0 ∧ z % 128 < 64) ∨ (z / 128 = -1 ∧ 64 ≤ z % 128) then [UInt8.ofNat (z % 128).toNat] else UInt8.ofNat ((z % 128).toNat + 128) :: slebL (z / 128)
termination_by z.natAbs
decreasing_by omega
theorem slebL_last {z : Int} (h : (z / 128 = 0 ∧ z % 128 < 64) ∨ (z / 128 = -1 ∧ 64 ≤ z % 128)) : slebL z = [UInt8.ofNat (z % 128).toNat] := by rw [slebL, dif_pos h]
theorem slebL_more {z : Int} (h : ¬ ((z / 128 = 0 ∧ z % 128 < 64) ∨ (z / 128 = -1 ∧ 64 ≤ z % 128))) : slebL z = UInt8.ofNat ((z % 128).toNat + 128) :: slebL (z / 128) := by rw [slebL, dif_neg h]
theorem slebL_ok (z : Int) : IsSleb (slebL z) z := by
 induction hm : z.natAbs using Nat.strongRecOn generalizing z with
 | _ m ih =>
  by_cases h : (z / 128 = 0 ∧ z % 128 < 64) ∨ (z / 128 = -1 ∧ 64 ≤ z % 128)
  ·rw [slebL_last h]
   have := u8_of (n := (z % 128).toNat) (by omega)
   refine ⟨IsLeb.one (by omega), ?_, ?_, ?_⟩
   ·simp only [lebV, this, List.length_singleton]; omega
   ·simp only [List.length_singleton]; omega
   ·simp only [List.length_singleton]; omega
  ·rw [slebL_more h]
   have hs := ih (z / 128).natAbs (by omega) (z / 128) rfl
   have := u8_of (n := (z % 128).toNat + 128) (by omega)
   have hpos := List.length_pos_iff.2 hs.leb.1
   have e7 : (2 : Int) ^ (7 * (slebL (z / 128)).length + 7) = 128 * 2 ^ (7 * (slebL (z / 128)).length) := by
    rw [Int.pow_add]; have : (2 : Int) ^ 7 = 128 := by decide
    rw [this, Int.mul_comm]
   have e71 : (2 : Int) ^ (7 * (slebL (z / 128)).length + 7 - 1) = 128 * 2 ^ (7 * (slebL (z / 128)).length - 1) := by
    rw [show 7 * (slebL (z / 128)).length + 7 - 1 = (7 * (slebL (z / 128)).length - 1) + 7 by omega, Int.pow_add]; have : (2 : Int) ^ 7 = 128 := by decide
    rw [this, Int.mul_comm]
   have hlo := hs.lo
   have hhi := hs.hi
   have heq := hs.eqv
   refine ⟨IsLeb.cons (by omega) hs.leb, ?_, ?_, ?_⟩
   ·simp only [lebV, this, List.length_cons]
    rw [show 7 * ((slebL (z / 128)).length + 1) = 7 * (slebL (z / 128)).length + 7 by omega, e7, Int.natCast_add, Int.natCast_mul, heq]
    have hp : (0 : Int) < 2 ^ (7 * (slebL (z / 128)).length) := Int.pow_pos (by decide)
    generalize (2 : Int) ^ (7 * (slebL (z / 128)).length) = M at *
    have h3 : z % (128 * M) = z % 128 + 128 * (z / 128 % M) := by
     have h1 : z % (128 * M) = z - 128 * M * (z / (128 * M)) := by have := Int.mul_ediv_add_emod z (128 * M); omega
     have h2 : z / (128 * M) = z / 128 / M := (Int.ediv_ediv_of_nonneg (by omega)).symm
     have h4 : z / 128 % M = z / 128 - M * (z / 128 / M) := by have := Int.mul_ediv_add_emod (z / 128) M; omega
     rw [h1, h2, h4, Int.mul_assoc, Int.mul_sub]
     omega
    rw [h3]
    omega
   ·rw [List.length_cons, show 7 * ((slebL (z / 128)).length + 1) - 1 = 7 * (slebL (z / 128)).length + 7 - 1 by omega, e71]
    omega
   ·rw [List.length_cons, show 7 * ((slebL (z / 128)).length + 1) - 1 = 7 * (slebL (z / 128)).length + 7 - 1 by omega, e71]
    omega
theorem slebL_len (k : Nat) : ∀ (z : Int), -2 ^ (7 * (k + 1) - 1) ≤ z → z < 2 ^ (7 * (k + 1) - 1) → (slebL z).length ≤ k + 1 := by
 induction k with
 | zero =>
  intro z h0 h1
  have e : (2 : Int) ^ (7 * (0 + 1) - 1) = 64 := by decide
  rw [e] at h0 h1
  rw [slebL_last (by omega)]; simp
 | succ k ih =>
  intro z h0 h1
  by_cases h : (z / 128 = 0 ∧ z % 128 < 64) ∨ (z / 128 = -1 ∧ 64 ≤ z % 128)
  ·rw [slebL_last h]; simp
  ·rw [slebL_more h, List.length_cons]
   have e71 : (2 : Int) ^ (7 * (k + 1 + 1) - 1) = 128 * 2 ^ (7 * (k + 1) - 1) := by
    rw [show 7 * (k + 1 + 1) - 1 = (7 * (k + 1) - 1) + 7 by omega, Int.pow_add]; have : (2 : Int) ^ 7 = 128 := by decide
    rw [this, Int.mul_comm]
   rw [e71] at h0 h1
   generalize (2 : Int) ^ (7 * (k + 1) - 1) = M at *
   have := ih (z / 128) (by omega) (by omega)
   omega
theorem slebL_len10 {z : Int} (h0 : -9223372036854775808 ≤ z) (h1 : z < 9223372036854775808) : (slebL z).length ≤ 10 := by
 refine slebL_len 9 z ?_ ?_
 ·have : (2 : Int) ^ (7 * (9 + 1) - 1) = 590295810358705651712 := by decide
  rw [this]; omega
 ·have : (2 : Int) ^ (7 * (9 + 1) - 1) = 590295810358705651712 := by decide
  rw [this]; omega
structure AbF where
 attr : Nat
 form : Nat
 val : Int
structure Abb where
 code : Nat
 tag : Nat
 ch : Bool
 fs : List AbF
def encF (f : AbF) : List UInt8 := ulebL f.attr ++ (ulebL f.form ++ (if f.form = 33 then slebL f.val else []))
def encFs : List AbF → List UInt8
 | [] => []
 | f :: l => encF f ++ encFs l
def encA (a : Abb) : List UInt8 := ulebL a.code ++ (ulebL a.tag ++ ((if a.ch then [1] else [0]) ++ (encFs a.fs ++ [0, 0])))
def encAs : List Abb → List UInt8
 | [] => []
 | a :: l => encA a ++ encAs l
theorem encFs_append : ∀ (a b : List AbF), encFs (a ++ b) = encFs a ++ encFs b
 | [], _ => rfl
 | f :: a, b => by simp [encFs, encFs_append a b]
theorem encF_pos (f : AbF) : 2 ≤ (encF f).length := by
 have := ulebL_pos f.attr
 have := ulebL_pos f.form
 rw [encF, List.length_append, List.length_append]; omega
theorem encFs_len : ∀ l : List AbF, 2 * l.length ≤ (encFs l).length
 | [] => Nat.le_refl _
 | f :: l => by
  have := encFs_len l
  have := encF_pos f
  rw [encFs, List.length_append, List.length_cons]; omega
theorem encAs_append : ∀ (a b : List Abb), encAs (a ++ b) = encAs a ++ encAs b
 | [], _ => rfl
 | f :: a, b => by simp [encAs, encAs_append a b]
section
variable {P : Program} {ops : Array Oper} {Q : Post} {n : Nat} {D : List Deferred} {R : Regs} {Γ : Env} {H : List Blk} {rest : List Oper}
variable {d : Nat} {ty : TypeId} {pos : String} {aft : Array Edge}
theorem WL.stPre {T : Tab} (hT : TabOk P T) {t : TypeId} {x y : Operand} {b o k : Nat} {i : TI} {tt : TypeId} {pre l l' : List Value} {H' : List Blk} {v : Value}
  (hx : ev R x = some (.pointer (some ⟨b, o, none⟩))) (hy : ev R y = some v) (hi : T.get t = some i) (hp : Pick H b (cel (pre ++ l) tt) H') (hs : Spl k (vcells v) l l') (ho : o = pre.length + k)
  (hz : Nat.beq (llen (vcells v)) i.size = true) (hone : oneAll (vcells v) = true)
  (K : WL P ops Q n D rest R Γ ((b, cel (pre ++ l') tt) :: H')) : WL P ops Q n D (⟨none, .store t x y, ty, pos, aft, none⟩ :: rest) R Γ H :=
 WL.stN hT hx hy hi hp (.inl (Nat.le_refl _)) (by have := hs.eq.2; rw [List.length_append]; omega) (by rw [setAll_pre _ _ _ _ k ho, hs.eq.1]) hz hone K
theorem WL.ldPre {T : Tab} (hT : TabOk P T) {t : TypeId} {x : Operand} {b o k : Nat} {i : TI} {tt : TypeId} {fz : Nat × Nat} {pre l : List Value} {H' : List Blk} {v : Value}
  (hx : ev R x = some (.pointer (some ⟨b, o, none⟩))) (hi : T.get t = some i) (ha : TypeDesc.agg i.desc = false) (hp : Pick H b (celF (pre ++ l) tt fz) H') (hv : lget l k = some v) (ho : o = pre.length + k)
  (hd : Nat.blt d n = true) (K : WL P ops Q n D rest ((d, v) :: R) Γ H) : WL P ops Q n D (⟨some d, .load t x, ty, pos, aft, none⟩ :: rest) R Γ H :=
 WL.ldR hT hx hi ha (.inr ⟨_, _, _, _, hp, by
  have h := (lget_pre pre l ho).trans hv
  rw [lget_eq] at h; simpa using h⟩) hd K
theorem Ld.pre {T : Tab} (hT : TabOk P T) {t : TypeId} {b o k : Nat} {j : TI} {tt : TypeId} {fz : Nat × Nat} {pre l : List Value} {Γs : Env} {Hs H' : List Blk} {v : Value}
  (hj : T.get t = some j) (ha : TypeDesc.agg j.desc = false) (hp : Pick Hs b (celF (pre ++ l) tt fz) H') (hv : lget l k = some v) (ho : o = pre.length + k) : Ld P Γs Hs t b o v :=
 Ld.own hT hj ha hp ((lget_pre pre l ho).trans hv)
end
end Go.Sl
namespace Go.Proofs.YtbgkbgoonjkghaaGreatDoor
open Go Go.Sl
set_option maxRecDepth 10000
set_option maxHeartbeats 40000000
section
variable {Γ : Env} {H F : List Blk} {p : Nat} {dw fmt nm err d : Value} {off : Nat} {post : List Value} {T : TypeId}
theorem buf_uleb {ord : Value} {k : Nat} {l : List UInt8} (hk : k < 18446744073709551616) (hp : Pick H p (cel (bufc dw ord fmt nm off d err post) T) F) (hd : Byt Γ d (ulebL k ++ l)) (ho : off + (ulebL k).length < 4294967296) :
  Spc Tryz.prog 69 #[.pointer (some ⟨p, 0, none⟩)] Γ H (fun v Γ' H' => v = .int .u64 (k : Int) ∧ Γ = Γ' ∧ ∃ d', Byt Γ d' l ∧ H' = (p, cel (bufc dw ord fmt nm (off + (ulebL k).length) d' err post) T) :: F) := by
 have := buf_uint hp hd (ulebL_ok k).1 (ulebL_len10 (by simpa using hk)) ho
 rw [(ulebL_ok k).2, Nat.mod_eq_of_lt (by simpa using hk)] at this
 exact this
theorem buf_sleb {ord : Value} {z : Int} {l : List UInt8} (h0 : -9223372036854775808 ≤ z) (h1 : z < 9223372036854775808) (hp : Pick H p (cel (bufc dw ord fmt nm off d err post) T) F) (hd : Byt Γ d (slebL z ++ l)) (ho : off + (slebL z).length < 4294967296) :
  Spc Tryz.prog 106 #[.pointer (some ⟨p, 0, none⟩)] Γ H (fun v Γ' H' => v = .int .i64 z ∧ Γ = Γ' ∧ ∃ d', Byt Γ d' l ∧ H' = (p, cel (bufc dw ord fmt nm (off + (slebL z).length) d' err post) T) :: F) :=
 buf_int hp hd (slebL_ok z) (slebL_len10 h0 h1) h0 h1 ho
end
def fcell (vers : Int) (f : AbF) : List Value := [.int .u32 f.attr, .int .u32 f.form, .int .i64 (formClass f.form f.attr vers), .int .i64 f.val]
def fcells (vers : Int) : List AbF → List Value
 | [] => []
 | f :: l => fcell vers f ++ fcells vers l
theorem fcells_length (vers : Int) : ∀ l, (fcells vers l).length = l.length * 4
 | [] => rfl
 | f :: l => by rw [fcells, List.length_append, fcells_length vers l]; simp [fcell]; omega
theorem fcells_append (vers : Int) : ∀ a b, fcells vers (a ++ b) = fcells vers a ++ fcells vers b
 | [], _ => rfl
 | f :: a, b => by simp [fcells, fcells_append vers a b]
structure OkF (f : AbF) : Prop where
 form : f.form ∈ formsK
 apos : 0 < f.attr
 attr : f.attr < 4294967296
 lo : -9223372036854775808 ≤ f.val
 hi : f.val < 9223372036854775808
 val : f.form ≠ 33 → f.val = 0
structure OkA (a : Abb) : Prop where
 pos : 0 < a.code
 code : a.code < 4294967296
 tag : a.tag < 4294967296
 fs : ∀ f ∈ a.fs, OkF f
theorem OkF.pos {f : AbF} (h : OkF f) : 0 < f.form ∧ f.form < 64 := by
 have := h.form
 simp only [formsK, List.mem_cons, List.not_mem_nil, or_false] at this
 omega
def AbEnt (Γ : Env) (vers : Int) (a : Abb) (e : MapEntry) : Prop :=
 e.key = .int .u32 a.code ∧ ∃ sl, e.val = .agg #[.int .u32 a.tag, .bool a.ch, sl] ∧ Im Γ sl a.fs.length (fcells vers a.fs)
def AbEnts (Γ : Env) (vers : Int) : List Abb → List MapEntry → Prop
 | [], [] => True
 | a :: xs, e :: es => AbEnt Γ vers a e ∧ AbEnts Γ vers xs es
 | _, _ => False
theorem AbEnt.mono {Γ Γ' : Env} (hle : Γ.le Γ') {vers : Int} {a : Abb} {e : MapEntry} (h : AbEnt Γ vers a e) : AbEnt Γ' vers a e := by
 obtain ⟨h1, sl, h2, h3⟩ := h
 exact ⟨h1, sl, h2, h3.mono hle⟩
theorem AbEnts.mono {Γ Γ' : Env} (hle : Γ.le Γ') {vers : Int} : ∀ {xs : List Abb} {es : List MapEntry}, AbEnts Γ vers xs es → AbEnts Γ' vers xs es
 | [], [], _ => trivial
 | _ :: _, _ :: _, ⟨h1, h2⟩ => ⟨h1.mono hle, AbEnts.mono hle h2⟩
theorem AbEnts.snoc {Γ : Env} {vers : Int} {a : Abb} {e : MapEntry} (ha : AbEnt Γ vers a e) : ∀ {xs : List Abb} {es : List MapEntry}, AbEnts Γ vers xs es → AbEnts Γ vers (xs ++ [a]) (es ++ [e])
 | [], [], _ => ⟨ha, trivial⟩
 | _ :: _, _ :: _, ⟨h1, h2⟩ => ⟨h1, AbEnts.snoc ha h2⟩
theorem AbEnts.keys {Γ : Env} {vers : Int} : ∀ {xs : List Abb} {es : List MapEntry}, AbEnts Γ vers xs es → keysOf .u32 es
 | [], [], _ => fun e h => by cases h
 | a :: xs, e :: es, ⟨h1, h2⟩ => fun x h => by
  rcases List.mem_cons.1 h with rfl | h
  ·exact ⟨_, h1.1⟩
  ·exact AbEnts.keys h2 x h
theorem AbEnts.miss {Γ : Env} {vers : Int} {c : Nat} : ∀ {xs : List Abb} {es : List MapEntry} {i : Nat}, AbEnts Γ vers xs es → (∀ a ∈ xs, a.code ≠ c) → mfind (c : Int) es i = none
 | [], [], _, _, _ => rfl
 | a :: xs, e :: es, i, ⟨h1, h2⟩, hn => by
  have := hn a (List.mem_cons_self ..)
  simp only [mfind, h1.1]
  rw [show ((c : Int) == (a.code : Int)) = false from beq_eq_false_iff_ne.2 (by omega)]
  exact AbEnts.miss h2 fun x hx => hn x (List.mem_cons_of_mem _ hx)
theorem AbEnts.hit {Γ : Env} {vers : Int} {c : Abb} : ∀ {xs : List Abb} {es : List MapEntry} {i : Nat}, AbEnts Γ vers xs es → xs.Pairwise (fun a b => a.code ≠ b.code) → c ∈ xs → ∃ j e, mfind (c.code : Int) es i = some (j, e) ∧ ∃ sl, e = .agg #[.int .u32 c.tag, .bool c.ch, sl] ∧ Im Γ sl c.fs.length (fcells vers c.fs)
 | a :: xs, e :: es, i, ⟨h1, h2⟩, hp, hc => by
  rw [List.pairwise_cons] at hp
  simp only [mfind, h1.1]
  rcases List.mem_cons.1 hc with rfl | hc
  ·refine ⟨i, e.val, by simp, h1.2⟩
  ·have hne := hp.1 c hc
   rw [show ((c.code : Int) == (a.code : Int)) = false from beq_eq_false_iff_ne.2 (by omega)]
   exact AbEnts.hit h2 hp.2 hc
abbrev nofmt : Value := .iface 226 (.agg #[])
abbrev sAbbrev : ByteArray := ⟨#[97, 98, 98, 114, 101, 118]⟩
theorem uleb0 : ulebL 0 = [0] := by rw [ulebL_small (by decide)]; rfl
theorem im_add {Γ : Env} {b n cap : Nat} {l sp : List Value} {T : TypeId} (h : n ≤ cap) : Im (Γ.add b (cel (l ++ sp) T)) (.slice (some ⟨b, 0, none⟩) n cap) n l :=
 ⟨_, _, rfl, h, fun q x e => ⟨b, 0, rfl, by
  have hlt := (List.getElem?_eq_some_iff.1 e).1
  simp only [Env.cell, Env.add, if_true]
  simp [List.getElem?_append_left hlt, e]⟩⟩
theorem parseAbbrev_ok {Γ : Env} {H F : List Blk} {pd rc : Nat} {big : Bool} {dA : Value} {pre rest : List UInt8} {xs : List Abb} {vers : Int} {ces : List MapEntry} {cc : Nat}
  (hG : Glob Γ) (hp : Pick H rc (.map ces.toArray cc) F) (hA : Byt Γ dA (pre ++ (encAs xs ++ 0 :: rest)))
  (h0 : Rd Γ F pd 0 dA) (h12 : Rd Γ F pd 12 (.map (some rc))) (h14 : Rd Γ F pd 14 (.bool big))
  (hck : keysOf .u64 ces) (hmiss : mfind (pre.length : Int) ces 0 = none) (hok : ∀ a ∈ xs, OkA a) (hdis : xs.Pairwise (fun a b => a.code ≠ b.code)) (hsz : (pre ++ (encAs xs ++ 0 :: rest)).length < 2147483648) :
  Spc Tryz.prog 89 #[.pointer (some ⟨pd, 0, none⟩), .int .u64 (pre.length : Int), .int .i64 vers] Γ H (fun v Γ' H' => ∃ r es c, v = .tuple #[.map (some r), .nilIface] ∧ Γ'.imm r = some (.map (es : List MapEntry).toArray c) ∧ AbEnts Γ' vers xs es ∧
   H' = (rc, .map (ces ++ [MapEntry.mk (.int .u64 (pre.length : Int)) (.map (some r)) cc]).toArray (cc + 1)) :: F) := by
 have hA' := hA
 obtain ⟨aA, capA, rfl, hcA, hAA⟩ := hA
 refine Spc.perm ?_ hp.perm
 have g0 : Rd Γ ((rc, .map ces.toArray cc) :: F) pd 0 _ := h0.cons
 have g12 : Rd Γ ((rc, .map ces.toArray cc) :: F) pd 12 _ := h12.cons
 have g14 : Rd Γ ((rc, .map ces.toArray cc) :: F) pd 14 _ := h14.cons
 have hlA : (pre ++ (encAs xs ++ 0 :: rest)).length = pre.length + (encAs xs ++ 0 :: rest).length := List.length_append
 have hwl : IntKind.u64.wrap ((pre ++ (encAs xs ++ 0 :: rest)).length : Int) = ((pre ++ (encAs xs ++ 0 :: rest)).length : Int) := w_u64 (by omega) (by omega)
 refine Spc.body3 Tryz.func89 rfl Tryz.ntmps89 rfl ?_
 refine go_ ?_
 refine WL.ldR tab_ok rfl rfl rfl (by assumption) rfl ?_
 refine go_ ?_
 refine WL.lookup tab_ok rfl rfl rfl rfl rfl (.inr ⟨_, Pick.here⟩) hck (v := .tuple #[.map none, .bool false]) (by rw [hmiss]; rfl) rfl ?_
 refine go_ ?_
 refine WL.ldR tab_ok rfl rfl rfl (by assumption) rfl ?_
 refine go_ ?_
 refine WC.condF rfl (decide_eq_false (by omega)) ?_
 refine go_ ?_
 have hB := hA'.drop pre.length (by omega)
 rw [List.drop_left] at hB
 refine WL.call rfl Tryz.call67 rfl rfl (by exact (makeBuf_ok (Γ := Γ) (tf := 226) (vf := .agg #[]) g14)) ?_
 rintro _ _ _ - ⟨rfl, rfl, rfl⟩
 refine go_ ?_
 (refine WL.alloc tab_ok rfl rfl ?_; intro p1)
 refine go_ ?_
 (refine WL.makeMap rfl ?_; intro r)
 refine go_ ?_
 refine WC.loopE (fun m R' Γ' H' => ∃ j Γj d o es c, R' = [(0, .pointer (some ⟨pd, 0, none⟩)), (1, .int .u64 (pre.length : Int)), (2, .int .i64 vers), (11, .pointer (some ⟨p1, 0, none⟩)), (12, .map (some r))] ∧ Γj = Γ' ∧
   H' = (p1, cel (bufc (.pointer (some ⟨pd, 0, none⟩)) (.bool big) nofmt (.string sAbbrev) o d .nilIface []) 223) :: (r, .map (es : List MapEntry).toArray c) :: (rc, .map ces.toArray cc) :: F ∧
   m = xs.length - j ∧ j ≤ xs.length ∧ Γ.le Γj ∧ Byt Γj d (encAs (xs.drop j) ++ 0 :: rest) ∧ o + (encAs (xs.drop j) ++ 0 :: rest).length ≤ 2147483648 ∧ AbEnts Γj vers (xs.take j) es)
  ⟨0, Γ, _, 0, [], 0, rfl, rfl, rfl, rfl, Nat.zero_le _, Env.le.rfl' _, hB, by simp only [List.drop_zero]; omega, trivial⟩ sr_ (fun _ h => h.perm (List.Perm.swap _ _ _)) ?_
 clear hlA hwl hcA hAA hA' hB g0 g12 g14 hsz
 rintro m R' Γ' H' ⟨j, Γj, d, o, es, c, rfl, rfl, rfl, rfl, hj, hle, hd, ho, hes⟩
 have g12' : Rd Γj ((p1, cel (bufc (.pointer (some ⟨pd, 0, none⟩)) (.bool big) nofmt (.string sAbbrev) (o + (ulebL 0).length) d .nilIface []) 223) :: (r, .map es.toArray c) :: (rc, .map ces.toArray cc) :: F) pd 12 (.map (some rc)) := ((h12.mono hle).cons).cons.cons
 rcases Nat.lt_or_ge j xs.length with hlt | hge
 case inr =>
  have ej : j = xs.length := by omega
  subst ej
  rw [List.drop_length] at hd ho
  have hd0 : Byt Γj d (ulebL 0 ++ rest) := by rw [uleb0]; exact hd
  refine go_ ?_
  refine WL.call rfl Tryz.call69 rfl rfl (by exact (buf_uleb (by decide) Pick.here hd0 (by rw [uleb0]; simp [encAs] at ho ⊢; omega))) ?_
  rintro _ _ _ - ⟨rfl, rfl, d', hd1, rfl⟩
  refine go_ ?_
  have g12'' : Rd Γj ((p1, cel (bufc (.pointer (some ⟨pd, 0, none⟩)) (.bool big) nofmt (.string sAbbrev) (o + (ulebL 0).length) d' .nilIface []) 223) :: (r, .map es.toArray c) :: (rc, .map ces.toArray cc) :: F) pd 12 (.map (some rc)) := ((h12.mono hle).cons).cons.cons
  refine WL.ldR tab_ok rfl rfl rfl (by assumption) rfl ?_
  refine go_ ?_
  refine WL.mapNew tab_ok rfl rfl rfl rfl rfl pk_ hck hmiss ?_
  refine go_ ?_
  refine WE.freeze (b := r) pk_ (fun hle2 => ?_)
  refine WE.drop (b := p1) pk_ ?_
  rw [List.take_length] at hes
  exact end_2 rfl rfl rfl (hle.trans hle2) ⟨r, es, c, rfl, by simp [Env.add], hes.mono hle2, rfl⟩
 case inl =>
  obtain ⟨a, ha⟩ : ∃ a, xs[j]? = some a := ⟨_, List.getElem?_eq_getElem hlt⟩
  have hdr : xs.drop j = a :: xs.drop (j + 1) := by
   rw [List.drop_eq_getElem_cons hlt]
   rw [List.getElem?_eq_getElem hlt] at ha; injection ha with ha; rw [ha]
  have hoa : OkA a := hok a (List.mem_of_getElem? ha)
  rw [hdr] at hd ho
  generalize htail : encAs (xs.drop (j + 1)) ++ 0 :: rest = tail
  have hd1 : Byt Γj d (ulebL a.code ++ (ulebL a.tag ++ ((if a.ch then [1] else [0]) ++ (encFs a.fs ++ ([0, 0] ++ tail))))) := by
   rw [← htail]; simpa only [encAs, encA, List.append_assoc] using hd
  have ho1 : o + (ulebL a.code).length + (ulebL a.tag).length + 1 + (encFs a.fs).length + 2 + tail.length ≤ 2147483648 := by
   have : (encAs (a :: xs.drop (j + 1)) ++ 0 :: rest).length = (ulebL a.code).length + (ulebL a.tag).length + 1 + (encFs a.fs).length + 2 + tail.length := by
    rw [← htail]
    simp only [encAs, encA, List.length_append, List.length_cons, List.length_nil]
    have : (if a.ch then [1] else [0] : List UInt8).length = 1 := by cases a.ch <;> rfl
    omega
   omega
  clear hd ho
  obtain ⟨x0, hx0, hx0'⟩ : ∃ x0 : UInt8, (if a.ch then [1] else [0] : List UInt8) = [x0] ∧ ((x0.toNat : Int) != 0) = a.ch := by
   cases a.ch
   ·exact ⟨0, rfl, rfl⟩
   ·exact ⟨1, rfl, rfl⟩
  rw [hx0] at hd1
  have hcode := hoa.code
  have hcpos := hoa.pos
  have hwcode : IntKind.u32.wrap (a.code : Int) = (a.code : Int) := w_u32 (by omega) (by omega)
  refine go_ ?_
  refine WL.call rfl Tryz.call69 rfl rfl (by exact (buf_uleb (by omega) Pick.here hd1 (by omega))) ?_
  rintro _ _ _ - ⟨rfl, rfl, d1, hd2, rfl⟩
  have hd2' := hd2
  obtain ⟨a1, c1, rfl, -, -⟩ := hd2'
  refine go_ ?_
  refine WC.condF rfl (beq_eq_false_iff_ne.2 (by omega)) ?_
  refine go_ ?_
  (refine WL.alloc tab_ok rfl rfl ?_; intro p2)
  refine go_ ?_
  have htag := hoa.tag
  refine WL.call rfl Tryz.call69 rfl rfl (by exact (buf_uleb (by omega) pk_ hd2 (by omega))) ?_
  rintro _ _ _ - ⟨rfl, rfl, d2, hd3, rfl⟩
  refine go_ ?_
  refine WL.call rfl Tryz.call68 rfl rfl (by exact (buf_uint8 pk_ hd3 (by omega))) ?_
  rintro _ _ _ - ⟨rfl, rfl, d3, hd4, rfl⟩
  refine go_ ?_
  refine WC.loopE (fun m R' Γ' H' => ∃ i d4 o4, R' = [(0, .pointer (some ⟨pd, 0, none⟩)), (1, .int .u64 (pre.length : Int)), (2, .int .i64 vers), (11, .pointer (some ⟨p1, 0, none⟩)), (12, .map (some r)), (13, .int .u32 (IntKind.u32.wrap (a.code : Int))), (14, .int .i64 ((i : Nat) : Int)), (15, .pointer (some ⟨p2, 0, none⟩))] ∧ Γj = Γ' ∧
   H' = (p2, cel (bufc (.pointer (some ⟨pd, 0, none⟩)) (.bool big) nofmt (.string sAbbrev) o4 d4 .nilIface []) 223) :: (p1, cel (bufc (.pointer (some ⟨pd, 0, none⟩)) (.bool big) nofmt (.string sAbbrev) (o + (ulebL a.code).length) (.slice a1 _ c1) .nilIface []) 223) :: (r, .map es.toArray c) :: (rc, .map ces.toArray cc) :: F ∧
   m = a.fs.length - i ∧ i ≤ a.fs.length ∧ Byt Γj d4 (encFs (a.fs.drop i) ++ ([0, 0] ++ tail)) ∧ o4 + (encFs (a.fs.drop i)).length + 2 + tail.length ≤ 2147483648)
   ⟨0, d3, _, rfl, rfl, rfl, rfl, Nat.zero_le _, hd4, by simp only [List.drop_zero]; omega⟩ sr_ (fun _ h => h) ?_
  rintro m R' Γ' H' ⟨i, d4, o4, rfl, rfl, rfl, rfl, hi, hd5, ho5⟩
  have hfl := encFs_len a.fs
  rcases Nat.lt_or_ge i a.fs.length with hilt | hige
  case inl =>
   obtain ⟨f, hf⟩ : ∃ f, a.fs[i]? = some f := ⟨_, List.getElem?_eq_getElem hilt⟩
   have hfd : a.fs.drop i = f :: a.fs.drop (i + 1) := by
    rw [List.drop_eq_getElem_cons hilt]
    rw [List.getElem?_eq_getElem hilt] at hf; injection hf with hf; rw [hf]
   have hof : OkF f := hoa.fs f (List.mem_of_getElem? hf)
   have hapos := hof.apos
   have hattr := hof.attr
   obtain ⟨hfpos, hf64⟩ := hof.pos
   rw [hfd] at hd5 ho5
   simp only [encFs, encF, List.append_assoc, List.length_append] at hd5 ho5
   refine go_ ?_
   refine WL.call rfl Tryz.call69 rfl rfl (by exact (buf_uleb (by omega) pk_ hd5 (by omega))) ?_
   rintro _ _ _ - ⟨rfl, rfl, d5, hd6, rfl⟩
   refine go_ ?_
   refine WL.call rfl Tryz.call69 rfl rfl (by exact (buf_uleb (by omega) pk_ hd6 (by omega))) ?_
   rintro _ _ _ - ⟨rfl, rfl, d6, hd7, rfl⟩
   refine go_ ?_
   cases hz : ((f.attr : Int) == 0) with
   | true => have := eq_of_beq hz; omega
   | false =>
   refine go_ ?_
   have hwf : IntKind.u32.wrap (f.form : Int) = (f.form : Int) := w_u32 (by omega) (by omega)
   have hwi : IntKind.i64.wrap ((i : Int) + 1) = (i : Int) + 1 := w_i64 (by omega) (by omega)
   by_cases h33 : f.form = 33
   ·rw [if_pos h33] at hd7 ho5
    refine WC.condT rfl (by rw [hwf, h33]; rfl) ?_
    refine go_ ?_
    have hlo := hof.lo
    have hhi := hof.hi
    refine WL.call rfl Tryz.call106 rfl rfl (by exact (buf_sleb hlo hhi pk_ hd7 (by omega))) ?_
    rintro _ _ _ - ⟨rfl, rfl, d7, hd8, rfl⟩
    refine go_ ?_
    exact WE.again ⟨i + 1, d7, _, rfl, rfl, rfl, rfl, hilt, hd8, by omega⟩ (by omega) ⟨rfl, rfl, rfl, rfl, rfl, rfl, congrArg (fun z => some (Value.int .i64 z)) hwi, rfl, trivial⟩ (fun _ h => h)
   ·rw [if_neg h33] at hd7 ho5
    refine WC.condF rfl (by rw [hwf]; exact beq_eq_false_iff_ne.2 (by omega)) ?_
    refine go_ ?_
    exact WE.again ⟨i + 1, d6, _, rfl, rfl, rfl, rfl, hilt, hd7, by simp only [List.length_nil] at ho5; omega⟩ (by omega) ⟨rfl, rfl, rfl, rfl, rfl, rfl, congrArg (fun z => some (Value.int .i64 z)) hwi, rfl, trivial⟩ (fun _ h => h)
  case inr =>
   have ei : i = a.fs.length := by omega
   subst ei
   rw [List.drop_length] at hd5 ho5
   have hz0 : Byt Γj d4 (ulebL 0 ++ (ulebL 0 ++ tail)) := by rw [uleb0]; exact hd5
   have hul : (ulebL 0).length = 1 := by rw [uleb0]; rfl
   refine go_ ?_
   refine WL.call rfl Tryz.call69 rfl rfl (by exact (buf_uleb (by decide) pk_ hz0 (by omega))) ?_
   rintro _ _ _ - ⟨rfl, rfl, d5, hz1, rfl⟩
   refine go_ ?_
   refine WL.call rfl Tryz.call69 rfl rfl (by exact (buf_uleb (by decide) pk_ hz1 (by omega))) ?_
   rintro _ _ _ - ⟨rfl, rfl, d6, -, rfl⟩
   refine go_ ?_
   (refine WL.alloc tab_ok rfl rfl ?_; intro pa)
   refine go_ ?_
   refine WL.drop (b := p2) pk_ ?_
   refine WL.call rfl Tryz.call69 rfl rfl (by exact (buf_uleb (by omega) pk_ hd2 (by omega))) ?_
   rintro _ _ _ - ⟨rfl, rfl, d7, he3, rfl⟩
   refine go_ ?_
   refine WL.call rfl Tryz.call68 rfl rfl (by exact (buf_uint8 pk_ he3 (by omega))) ?_
   rintro _ _ _ - ⟨rfl, rfl, d8, he4, rfl⟩
   refine go_ ?_
   (refine WL.make tab_ok rfl rfl rfl rfl rfl rfl rfl rfl (by omega) (by omega) (by omega) rfl ?_; intro pf)
   refine go_ ?_
   have hx0b : (decide ((x0.toNat : Int) ≠ 0)) = a.ch := by rw [← hx0']; simp [bne, BEq.beq]
   have htagw : IntKind.u32.wrap (a.tag : Int) = (a.tag : Int) := w_u32 (by omega) (by omega)
   rw [hx0', htagw]
   refine WC.loopE (fun m R' Γ' H' => ∃ i d4 o4, R' = [(0, .pointer (some ⟨pd, 0, none⟩)), (1, .int .u64 (pre.length : Int)), (2, .int .i64 vers), (11, .pointer (some ⟨p1, 0, none⟩)), (12, .map (some r)), (13, .int .u32 (IntKind.u32.wrap (a.code : Int))), (18, .pointer (some ⟨pa, 0, none⟩)), (86, .int .i64 (a.fs.length : Int)), (87, .int .i64 ((i : Nat) : Int))] ∧ Γj = Γ' ∧
    H' = (pf, cel (fcells vers (a.fs.take i) ++ reps (a.fs.length - i) [.int .u32 0, .int .u32 0, .int .i64 0, .int .i64 0]) 318) :: (p1, cel (bufc (.pointer (some ⟨pd, 0, none⟩)) (.bool big) nofmt (.string sAbbrev) o4 d4 .nilIface []) 223) :: (pa, cel [.int .u32 (a.tag : Int), .bool a.ch, .slice (some ⟨pf, 0, none⟩) a.fs.length a.fs.length] 316) :: (r, .map es.toArray c) :: (rc, .map ces.toArray cc) :: F ∧
    m = a.fs.length - i ∧ i ≤ a.fs.length ∧ Byt Γj d4 (encFs (a.fs.drop i) ++ ([0, 0] ++ tail)) ∧ o4 + (encFs (a.fs.drop i)).length + 2 + tail.length ≤ 2147483648)
    ⟨0, d8, _, rfl, rfl, rfl, rfl, Nat.zero_le _, he4, by simp only [List.drop_zero]; omega⟩ sr_ sm_ ?_
   rintro m R' Γ' H' ⟨i, d9, o9, rfl, rfl, rfl, rfl, hi2, hf5, ho9⟩
   rcases Nat.lt_or_ge i a.fs.length with hilt | hige2
   case inr =>
    have ei : i = a.fs.length := by omega
    subst ei
    rw [List.drop_length] at hf5 ho9
    have hz2 : Byt Γj d9 (ulebL 0 ++ (ulebL 0 ++ tail)) := by rw [uleb0]; exact hf5
    refine go_ ?_
    refine WC.condF rfl (by first | rfl | exact decide_eq_false (by omega) | (simp; (first | done | fail)) | (simp; omega)) ?_
    refine go_ ?_
    refine WL.call rfl Tryz.call69 rfl rfl (by exact (buf_uleb (by decide) pk_ hz2 (by omega))) ?_
    rintro _ _ _ - ⟨rfl, rfl, d10, hz3, rfl⟩
    refine go_ ?_
    refine WL.call rfl Tryz.call69 rfl rfl (by exact (buf_uleb (by decide) pk_ hz3 (by omega))) ?_
    rintro _ _ _ - ⟨rfl, rfl, d11, hz4, rfl⟩
    refine go_ ?_
    have hmiss2 : ∀ x ∈ xs.take j, x.code ≠ a.code := by
     intro x hx
     have h := hdis
     rw [← List.take_append_drop j xs, List.pairwise_append] at h
     exact h.2.2 x hx a (by rw [hdr]; exact List.mem_cons_self ..)
    refine WL.mapNew tab_ok rfl rfl rfl rfl rfl pk_ hes.keys (by rw [hwcode]; exact hes.miss (c := a.code) hmiss2) ?_
    refine go_ ?_
    refine WE.freeze (b := pf) pk_ (fun hle2 => ?_)
    have htk : xs.take (j + 1) = xs.take j ++ [a] := by rw [List.take_add_one, ha]; rfl
    refine WE.again ⟨j + 1, _, d11, o9 + (ulebL 0).length + (ulebL 0).length, es ++ [MapEntry.mk (.int .u32 (IntKind.u32.wrap (a.code : Int))) (.agg #[.int .u32 (a.tag : Int), .bool a.ch, .slice (some ⟨pf, 0, none⟩) a.fs.length a.fs.length]) c], c + 1, rfl, rfl, rfl, rfl, hlt, hle.trans hle2, (by rw [htail]; exact hz4.mono hle2), (by rw [htail]; simp only [encFs, List.length_nil] at ho9; omega), (by
     rw [htk]
     refine AbEnts.snoc ⟨congrArg (Value.int .u32) hwcode, _, rfl, ?_⟩ (hes.mono hle2)
     rw [List.take_length]
     exact im_add (Nat.le_refl _))⟩ (by omega) sr_ sm_
   case inl =>
    obtain ⟨f, hf⟩ : ∃ f, a.fs[i]? = some f := ⟨_, List.getElem?_eq_getElem hilt⟩
    have hfd : a.fs.drop i = f :: a.fs.drop (i + 1) := by
     rw [List.drop_eq_getElem_cons hilt]
     rw [List.getElem?_eq_getElem hilt] at hf; injection hf with hf; rw [hf]
    have hof : OkF f := hoa.fs f (List.mem_of_getElem? hf)
    have hapos := hof.apos
    have hattr := hof.attr
    obtain ⟨hfpos, hf64⟩ := hof.pos
    rw [hfd] at hf5 ho9
    simp only [encFs, encF, List.append_assoc, List.length_append] at hf5 ho9
    have hrep : ∀ z : List Value, reps (a.fs.length - i) z = z ++ reps (a.fs.length - (i + 1)) z := fun z => by
     rw [show a.fs.length - i = (a.fs.length - (i + 1)) + 1 by omega]; rfl
    rw [hrep]
    have hpl : (fcells vers (a.fs.take i)).length = i * 4 := by rw [fcells_length, List.length_take, Nat.min_eq_left (by omega)]
    refine go_ ?_
    refine WC.condT rfl tr_ ?_
    refine go_ ?_
    refine WC.draw 7 (.take 0 (.take 1 (.take 2 (.one 3 (.take 4 (.one 5 (.take 6 (.one 7 .done)))))))) [(pa, _)] mixed sub_ (by decide +kernel) ?_
    refine dr_ ?_
    refine WL.call rfl Tryz.call69 rfl rfl (by exact (buf_uleb (by omega) pk_ hf5 (by omega))) ?_
    rintro _ _ _ - ⟨rfl, rfl, d10, hf6, rfl⟩
    refine dr_ ?_
    refine dr_ ?_
    refine WL.stPre (k := 0) tab_ok rfl rfl rfl pk_ spl_ (by omega) rfl rfl ?_
    have hwa : IntKind.u32.wrap (f.attr : Int) = (f.attr : Int) := w_u32 (by omega) (by omega)
    rw [hwa]
    refine go_ ?_
    refine WC.draw 7 (.take 0 (.take 1 (.take 2 (.one 3 (.take 4 (.one 5 (.take 6 (.one 7 .done)))))))) [(pa, _)] mixed sub_ (by decide +kernel) ?_
    refine dr_ ?_
    refine WL.call rfl Tryz.call69 rfl rfl (by exact (buf_uleb (by omega) pk_ hf6 (by omega))) ?_
    rintro _ _ _ - ⟨rfl, rfl, d11, hf7, rfl⟩
    refine dr_ ?_
    refine WL.stPre (k := 1) tab_ok rfl rfl rfl pk_ spl_ (by omega) rfl rfl ?_
    have hwf : IntKind.u32.wrap (f.form : Int) = (f.form : Int) := w_u32 (by omega) (by omega)
    rw [hwf]
    refine go_ ?_
    refine WC.draw 19 (.take 0 (.take 1 (.take 2 (.take 3 (.take 4 (.take 5 (.take 6 (.take 7 (.take 8 (.take 9 (.take 10 (.take 11 (.take 12 (.take 13 (.take 14 (.take 15 (.one 16 (.one 17 (.take 18 (.one 19 .done)))))))))))))))))))) [(pa, _), (pf, _)] mixed sub_ (by decide +kernel) ?_
    refine dr_ ?_
    refine WD.at_ rfl ?_
    refine WT.load np_ rfl rfl (Ld.pre (k := 1) tab_ok rfl rfl pk_ rfl (by omega)) ?_
    refine dr_ ?_
    refine WD.at_ rfl ?_
    refine WT.load np_ rfl rfl (Ld.pre (k := 0) tab_ok rfl rfl pk_ rfl (by omega)) ?_
    refine dr_ ?_
    refine WL.call rfl Tryz.call107 rfl rfl (by exact (formToClass_ok (hG.mono hle) hof.form _ _ _)) ?_
    rintro _ _ _ - ⟨rfl, rfl, rfl⟩
    refine dr_ ?_
    refine WL.stPre (k := 2) tab_ok rfl rfl rfl pk_ spl_ (by omega) rfl rfl ?_
    refine go_ ?_
    refine WL.ldPre (k := 1) tab_ok rfl rfl rfl pk_ rfl (by omega) rfl ?_
    refine go_ ?_
    have hwi : IntKind.i64.wrap ((i : Int) + 1) = (i : Int) + 1 := w_i64 (by omega) (by omega)
    have hcell : fcells vers (a.fs.take (i + 1)) = fcells vers (a.fs.take i) ++ fcell vers f := by
     rw [List.take_add_one, hf, fcells_append]; rfl
    by_cases h33 : f.form = 33
    ·rw [if_pos h33] at hf7 ho9
     refine WC.condT rfl (by rw [h33]; rfl) ?_
     refine go_ ?_
     refine WC.draw 6 (.take 0 (.take 1 (.take 2 (.one 3 (.one 4 (.take 5 (.one 6 .done))))))) [(pa, _)] mixed sub_ (by decide +kernel) ?_
     refine dr_ ?_
     have hlo := hof.lo
     have hhi := hof.hi
     refine WL.call rfl Tryz.call106 rfl rfl (by exact (buf_sleb hlo hhi pk_ hf7 (by omega))) ?_
     rintro _ _ _ - ⟨rfl, rfl, d12, hf8, rfl⟩
     refine dr_ ?_
     refine WL.stPre (k := 3) tab_ok rfl rfl rfl pk_ spl_ (by omega) rfl rfl ?_
     refine go_ ?_
     refine WE.again ⟨i + 1, d12, o9 + (ulebL f.attr).length + (ulebL f.form).length + (slebL f.val).length, rfl, rfl, rfl, rfl, hilt, hf8, by omega⟩ (by omega) ⟨rfl, rfl, rfl, rfl, rfl, rfl, rfl, rfl, congrArg (fun z => some (Value.int .i64 z)) hwi, trivial⟩ ?_
     rw [hcell, List.append_assoc]
     exact sm_
    ·rw [if_neg h33] at hf7 ho9
     refine WC.condF rfl (beq_eq_false_iff_ne.2 (by omega)) ?_
     refine go_ ?_
     refine WE.again ⟨i + 1, d11, o9 + (ulebL f.attr).length + (ulebL f.form).length, rfl, rfl, rfl, rfl, hilt, hf7, by simp only [List.length_nil] at ho9; omega⟩ (by omega) ⟨rfl, rfl, rfl, rfl, rfl, rfl, rfl, rfl, congrArg (fun z => some (Value.int .i64 z)) hwi, trivial⟩ ?_
     rw [hcell, List.append_assoc, fcell, hof.val h33]
     exact sm_
end Go.Proofs.YtbgkbgoonjkghaaGreatDoor
namespace Go.Sl
open Go
section
variable {P : Program} {Q Q' : Post} {n : Nat} {D : List Deferred} {R : Regs} {Γ : Env} {H : List Blk}
def Rnd (P : Program) (c : Code) (Q : Post) : Act → World → Prop := fun a w => c.wp P Q a w
def NoMore : Act → World → Prop := fun _ _ => False
theorem WC.loop2 {c : Code} (h : WC P c (Exit.then (Rnd P c (Exit.then NoMore Q)) Q) n D R Γ H) : WC P (.loop c) Q n D R Γ H :=
 ⟨fun a w hs => wp_loop_rounds 2 (h.go a w hs)⟩
theorem WE.rnd {c : Code} (h : WC P c Q' n D R Γ H) : WE (Exit.then (Rnd P c Q') Q) .normal n D R Γ H := ⟨fun a w hs => h.go a w hs⟩
end
end Go.Sl
namespace Go.Proofs.YtbgkbgoonjkghaaGreatDoor
open Go Go.Sl
set_option maxRecDepth 10000
set_option maxHeartbeats 40000000
structure PU where
 wide : Bool
 vers : Nat
 size : Nat
 abo : Nat
 abs : List Abb
 body : List UInt8
def offB (wide : Bool) (n : Nat) (big : Bool) : List UInt8 := bif wide then fix n 8 big else fix n 4 big
def osz (wide : Bool) : Nat := bif wide then 8 else 4
def lsz (wide : Bool) : Nat := bif wide then 12 else 4
def lenB (wide : Bool) (n : Nat) (big : Bool) : List UInt8 := bif wide then [255, 255, 255, 255] ++ fix n 8 big else fix n 4 big
theorem offB_length (wide : Bool) (n : Nat) (big : Bool) : (offB wide n big).length = osz wide := by cases wide <;> simp [offB, osz, fix_length]
theorem lenB_length (wide : Bool) (n : Nat) (big : Bool) : (lenB wide n big).length = lsz wide := by cases wide <;> simp [lenB, lsz, fix_length]
theorem lsz_bd (wide : Bool) : 4 ≤ lsz wide ∧ lsz wide ≤ 12 := by cases wide <;> simp [lsz]
theorem osz_bd (wide : Bool) : 4 ≤ osz wide ∧ osz wide ≤ 8 := by cases wide <;> simp [osz]
def hdB (big : Bool) (u : PU) : List UInt8 :=
 fix u.vers 2 big ++ (if 5 ≤ u.vers then fix 1 1 big ++ (fix u.size 1 big ++ offB u.wide u.abo big) else offB u.wide u.abo big ++ fix u.size 1 big)
def hsz (u : PU) : Nat := 2 + (if 5 ≤ u.vers then 2 + osz u.wide else osz u.wide + 1)
theorem hdB_length (big : Bool) (u : PU) : (hdB big u).length = hsz u := by
 simp only [hdB, hsz]
 split <;> simp only [List.length_append, fix_length, offB_length] <;> omega
def puB (big : Bool) (u : PU) : List UInt8 := lenB u.wide (hsz u + u.body.length) big ++ (hdB big u ++ u.body)
def pusB (big : Bool) : List PU → List UInt8
 | [] => []
 | u :: us => puB big u ++ pusB big us
theorem puB_length (big : Bool) (u : PU) : (puB big u).length = lsz u.wide + hsz u + u.body.length := by
 simp only [puB, List.length_append, lenB_length, hdB_length]; omega
structure OkPU (ab : List UInt8) (u : PU) : Prop where
 v2 : 2 ≤ u.vers
 v5 : u.vers ≤ 5
 size : u.size < 256
 abs : ∀ a ∈ u.abs, OkA a
 dist : u.abs.Pairwise (fun a b => a.code ≠ b.code)
 at_ : ∃ pre rest, ab = pre ++ (encAs u.abs ++ 0 :: rest) ∧ pre.length = u.abo
theorem pusB_drop {big : Bool} {us : List PU} {i : Nat} {u : PU} (h : us[i]? = some u) : pusB big (us.drop i) = puB big u ++ pusB big (us.drop (i + 1)) := by
 have hlt := (List.getElem?_eq_some_iff.1 h).1
 rw [List.drop_eq_getElem_cons hlt]
 rw [List.getElem?_eq_getElem hlt] at h; injection h with h; rw [h]; rfl
theorem pusB_take {big : Bool} {us : List PU} {i : Nat} {u : PU} (h : us[i]? = some u) : (pusB big (us.take (i + 1))).length = (pusB big (us.take i)).length + (puB big u).length := by
 have : ∀ a b : List PU, pusB big (a ++ b) = pusB big a ++ pusB big b := fun a b => by
  induction a with
  | nil => rfl
  | cons x a ih => simp only [List.cons_append, pusB, ih, List.append_assoc]
 rw [List.take_add_one, h, this, List.length_append]; simp [pusB]
theorem pusB_split (big : Bool) (us : List PU) (i : Nat) : (pusB big (us.take i)).length + (pusB big (us.drop i)).length = (pusB big us).length := by
 have : ∀ a b : List PU, pusB big (a ++ b) = pusB big a ++ pusB big b := fun a b => by
  induction a with
  | nil => rfl
  | cons x a ih => simp only [List.cons_append, pusB, ih, List.append_assoc]
 rw [← List.length_append, ← this, List.take_append_drop]
def UC (Γ : Env) (big : Bool) (base : Nat) (u : PU) (cs : List Value) : Prop :=
 ∃ d r es c, cs = [.int .u32 (base : Int), .int .u32 ((base + lsz u.wide + hsz u : Nat) : Int), d, .map (some r), .pointer none, .int .i64 (u.size : Int), .int .i64 (u.vers : Int), .bool u.wide, .int .u8 (if 5 ≤ u.vers then 1 else 0)] ∧
  Byt Γ d u.body ∧ Γ.imm r = some (.map (es : List MapEntry).toArray c) ∧ AbEnts Γ u.vers u.abs es
def UCs (Γ : Env) (big : Bool) : Nat → List PU → List Value → Prop
 | _, [], cs => cs = []
 | b, u :: us, cs => ∃ c1 c2, cs = c1 ++ c2 ∧ UC Γ big b u c1 ∧ UCs Γ big (b + (puB big u).length) us c2
theorem UC.mono {Γ Γ' : Env} (hle : Γ.le Γ') {big : Bool} {b : Nat} {u : PU} {cs : List Value} (h : UC Γ big b u cs) : UC Γ' big b u cs := by
 obtain ⟨d, r, es, c, h1, h2, h3, h4⟩ := h
 exact ⟨d, r, es, c, h1, h2.mono hle, hle.imm _ _ h3, h4.mono hle⟩
theorem UCs.mono {Γ Γ' : Env} (hle : Γ.le Γ') {big : Bool} : ∀ {us : List PU} {b : Nat} {cs : List Value}, UCs Γ big b us cs → UCs Γ' big b us cs
 | [], _, _, h => h
 | _ :: _, _, _, ⟨c1, c2, h1, h2, h3⟩ => ⟨c1, c2, h1, h2.mono hle, UCs.mono hle h3⟩
theorem UC.length {Γ : Env} {big : Bool} {b : Nat} {u : PU} {cs : List Value} (h : UC Γ big b u cs) : cs.length = 9 := by
 obtain ⟨d, r, es, c, rfl, -⟩ := h; rfl
theorem UCs.length {Γ : Env} {big : Bool} : ∀ {us : List PU} {b : Nat} {cs : List Value}, UCs Γ big b us cs → cs.length = us.length * 9
 | [], _, _, h => by cases h; rfl
 | _ :: us, _, _, ⟨c1, c2, h1, h2, h3⟩ => by rw [h1, List.length_append, h2.length, UCs.length h3, List.length_cons]; omega
theorem UCs.snoc {Γ : Env} {big : Bool} {u : PU} {c : List Value} : ∀ {us : List PU} {b : Nat} {cs : List Value}, UCs Γ big b us cs → UC Γ big (b + (pusB big us).length) u c → UCs Γ big b (us ++ [u]) (cs ++ c)
 | [], b, cs, h, hu => by
  cases h
  exact ⟨c, [], by simp, by simpa [pusB] using hu, rfl⟩
 | x :: us, b, cs, ⟨c1, c2, h1, h2, h3⟩, hu => by
  refine ⟨c1, c2 ++ c, by rw [h1, List.append_assoc], h2, UCs.snoc h3 ?_⟩
  rw [pusB, List.length_append, ← Nat.add_assoc] at hu; exact hu
theorem UCs.get {Γ : Env} {big : Bool} : ∀ {us : List PU} {b : Nat} {cs : List Value} {i : Nat} {u : PU}, UCs Γ big b us cs → us[i]? = some u → ∃ p c q, cs = p ++ (c ++ q) ∧ p.length = i * 9 ∧ UC Γ big (b + (pusB big (us.take i)).length) u c
 | [], _, _, _, _, _, e => by simp at e
 | x :: us, b, cs, 0, u, ⟨c1, c2, h1, h2, h3⟩, e => by
  injection e with e; subst e
  exact ⟨[], c1, c2, h1, rfl, h2⟩
 | x :: us, b, cs, i + 1, u, ⟨c1, c2, h1, h2, h3⟩, e => by
  obtain ⟨p, c, q, g1, g2, g3⟩ := UCs.get h3 (i := i) (by simpa using e)
  refine ⟨c1 ++ p, c, q, by rw [h1, g1, List.append_assoc], by rw [List.length_append, h2.length, g2]; omega, ?_⟩
  rw [List.take_succ_cons, pusB, List.length_append, ← Nat.add_assoc]; exact g3
theorem mfind_snoc {z : Int} {e : MapEntry} {kk : IntKind} {y : Int} (he : e.key = .int kk y) (hne : y ≠ z) : ∀ {l : List MapEntry} {i : Nat}, keysOf kk l → mfind z l i = none → mfind z (l ++ [e]) i = none
 | [], i, _, _ => by
  simp only [List.nil_append, mfind, he]
  rw [show (z == y) = false from beq_eq_false_iff_ne.2 (Ne.symm hne)]; rfl
 | x :: l, i, hk, h => by
  obtain ⟨y', hy⟩ := hk x (List.mem_cons_self ..)
  simp only [List.cons_append, mfind, hy] at h ⊢
  revert h
  cases hb : z == y' with
  | true => simp
  | false => intro h; exact mfind_snoc he hne (fun e h => hk e (List.mem_cons_of_mem _ h)) (by simpa using h)
section
variable {Γ : Env} {H F : List Blk} {p : Nat} {dw fmt nm err d : Value} {off : Nat} {post : List Value} {T : TypeId} {big : Bool} {k : Nat} {l : List UInt8}
theorem buf_uLen {wide : Bool} (hk : k < 2147483648) (hp : Pick H p (cel (bufc dw (.bool big) fmt nm off d err post) T) F) (hd : Byt Γ d (lenB wide k big ++ l)) (ho : off + lsz wide < 4294967296) :
  Spc Tryz.prog 82 #[.pointer (some ⟨p, 0, none⟩)] Γ H (fun v Γ' H' => v = .tuple #[.int .u32 (k : Int), .bool wide] ∧ Γ = Γ' ∧ ∃ d', Byt Γ d' l ∧ H' = (p, cel (bufc dw (.bool big) fmt nm (off + lsz wide) d' err post) T) :: F) := by
 cases wide with
 | false => exact buf_unitLength32 (by omega) hp hd ho
 | true =>
  have hd' : Byt Γ d ([255, 255, 255, 255] ++ (fix k 8 big ++ l)) := by simpa [lenB] using hd
  exact buf_unitLength64 (by omega) hp hd' ho
end
abbrev sInfo : ByteArray := ⟨#[105, 110, 102, 111]⟩
abbrev zUnit : List Value := [.int .u32 0, .int .u32 0, .slice none 0 0, .map none, .pointer none, .int .i64 0, .int .i64 0, .bool false, .int .u8 0]
theorem parseUnits_ok {Γ : Env} {H F : List Blk} {pd rc : Nat} {big : Bool} {dA dI : Value} {ab : List UInt8} {us : List PU}
  (hG : Glob Γ) (hp : Pick H rc (.map #[] 0) F) (hA : Byt Γ dA ab) (hI : Byt Γ dI (pusB big us))
  (h0 : Rd Γ F pd 0 dA) (h3 : Rd Γ F pd 3 dI) (h12 : Rd Γ F pd 12 (.map (some rc))) (h14 : Rd Γ F pd 14 (.bool big))
  (hok : ∀ u ∈ us, OkPU ab u) (hdis : us.Pairwise (fun a b => a.abo ≠ b.abo)) (hsa : ab.length < 2147483648) (hall : (pusB big us).length < 2147483648) (hn : us.length < 2147483648) :
  Spc Tryz.prog 59 #[.pointer (some ⟨pd, 0, none⟩)] Γ H (fun v Γ' H' => ∃ pu cs es c, v = .tuple #[.slice (some ⟨pu, 0, none⟩) us.length us.length, .nilIface] ∧ UCs Γ' big 0 us cs ∧
   H' = (pu, cel cs 279) :: (rc, .map (es : List MapEntry).toArray c) :: F) := by
 obtain ⟨aI, capI, rfl, hcI, hAI⟩ := hI
 have hI' : Byt Γ (.slice aI (pusB big us).length capI) (pusB big us) := ⟨_, _, rfl, hcI, hAI⟩
 refine Spc.perm ?_ hp.perm
 have g3 : Rd Γ ((rc, .map #[] 0) :: F) pd 3 _ := h3.cons
 have g14 : Rd Γ ((rc, .map #[] 0) :: F) pd 14 _ := h14.cons
 refine Spc.body1 Tryz.func59 rfl Tryz.ntmps59 rfl ?_
 refine go_ ?_
 refine WL.ldR tab_ok rfl rfl rfl (by assumption) rfl ?_
 refine go_ ?_
 refine WL.call rfl Tryz.call67 rfl rfl (by exact (makeBuf_ok (Γ := Γ) (tf := 226) (vf := .agg #[]) (off := 0) g14)) ?_
 rintro _ _ _ - ⟨rfl, rfl, rfl⟩
 refine go_ ?_
 (refine WL.alloc tab_ok rfl rfl ?_; intro pb)
 refine go_ ?_
 have hkk : ∀ {i : Nat} {u : PU}, us[i]? = some u → hsz u + u.body.length < 2147483648 ∧ 3 ≤ hsz u ∧ (pusB big (us.take i)).length + (lsz u.wide + hsz u + u.body.length) ≤ (pusB big us).length := fun {i u} hi => by
  have h1 := pusB_split big us i
  rw [pusB_drop hi, List.length_append, puB_length] at h1
  have h2 := lsz_bd u.wide
  have h3 := osz_bd u.wide
  refine ⟨by omega, ?_, by omega⟩
  unfold hsz; split <;> omega
 refine WC.loopE (fun m R' Γ' H' => ∃ i d, R' = [(0, .pointer (some ⟨pd, 0, none⟩)), (3, .nilIface), (4, .int .i64 ((i : Nat) : Int)), (5, .pointer (some ⟨pb, 0, none⟩))] ∧ Γ = Γ' ∧
   H' = (pb, cel (bufc (.pointer (some ⟨pd, 0, none⟩)) (.bool big) nofmt (.string sInfo) (pusB big (us.take i)).length d .nilIface []) 223) :: (rc, .map #[] 0) :: F ∧
   m = us.length - i ∧ i ≤ us.length ∧ Byt Γ d (pusB big (us.drop i)))
  ⟨0, _, rfl, rfl, rfl, rfl, Nat.zero_le _, hI'⟩ sr_ (fun _ h => h) ?_
 rintro m R' Γ' H' ⟨i, d, rfl, rfl, rfl, rfl, hi, hd⟩
 rcases Nat.lt_or_ge i us.length with hlt | hge
 case inl =>
  obtain ⟨u, hu⟩ : ∃ u, us[i]? = some u := ⟨_, List.getElem?_eq_getElem hlt⟩
  obtain ⟨k1, k2, k3⟩ := hkk hu
  have hd' := hd
  rw [pusB_drop hu, puB, List.append_assoc, List.append_assoc] at hd
  have hlen : (pusB big (us.drop i)).length = lsz u.wide + hsz u + u.body.length + (pusB big (us.drop (i + 1))).length := by
   rw [pusB_drop hu, List.length_append, puB_length]
  have hl4 := lsz_bd u.wide
  obtain ⟨a, cap, rfl, -, -⟩ := hd'
  refine go_ ?_
  refine WC.condT rfl tr_ ?_
  refine go_ ?_
  refine WL.call rfl Tryz.call82 rfl rfl (by exact (buf_uLen k1 Pick.here hd (by omega))) ?_
  rintro _ _ _ - ⟨rfl, rfl, d1, hd1, rfl⟩
  refine go_ ?_
  have hw : IntKind.i64.wrap ((hsz u + u.body.length : Nat) : Int) = ((hdB big u ++ u.body).length : Int) := by
   rw [List.length_append, hdB_length]; exact w_i64 (by omega) (by omega)
  have hlh : (hdB big u ++ u.body).length = hsz u + u.body.length := by rw [List.length_append, hdB_length]
  have hd2 : Byt Γ d1 ((hdB big u ++ u.body) ++ pusB big (us.drop (i + 1))) := by rw [List.append_assoc]; exact hd1
  refine WC.condF rfl (by simp) ?_
  refine go_ ?_
  rw [hw]
  refine WL.call rfl Tryz.call84 rfl rfl (by exact (buf_skip Pick.here hd2 (by omega))) ?_
  rintro _ _ _ - ⟨rfl, rfl, d2, hd3, rfl⟩
  refine go_ ?_
  refine WC.condT rfl tr_ ?_
  refine go_ ?_
  have hoff : (pusB big (us.take i)).length + lsz u.wide + (hdB big u ++ u.body).length = (pusB big (us.take (i + 1))).length := by
   rw [pusB_take hu, puB_length, hlh]; omega
  rw [hoff]
  exact WE.again ⟨i + 1, d2, rfl, rfl, rfl, rfl, hlt, hd3⟩ (by omega) ⟨rfl, rfl, congrArg (fun z => some (Value.int .i64 z)) (w_i64 (by omega) (by omega)), rfl, trivial⟩ (fun _ h => h)
 case inr =>
  have ei : i = us.length := by omega
  subst ei
  rw [List.drop_length] at hd
  have hd' := hd
  obtain ⟨a, cap, rfl, -, -⟩ := hd'
  refine go_ ?_
  refine go_ ?_
  have g3' : Rd Γ ((pb, cel (bufc (.pointer (some ⟨pd, 0, none⟩)) (.bool big) nofmt (.string sInfo) (pusB big (us.take us.length)).length (.slice a (pusB big []).length cap) .nilIface []) 223) :: (rc, .map #[] 0) :: F) pd 3 _ := h3.cons.cons
  have g14' : Rd Γ ((pb, cel (bufc (.pointer (some ⟨pd, 0, none⟩)) (.bool big) nofmt (.string sInfo) (pusB big (us.take us.length)).length (.slice a (pusB big []).length cap) .nilIface []) 223) :: (rc, .map #[] 0) :: F) pd 14 _ := h14.cons.cons
  refine WL.ldR tab_ok rfl rfl rfl (by assumption) rfl ?_
  refine go_ ?_
  refine WL.call rfl Tryz.call67 rfl rfl (by exact (makeBuf_ok (Γ := Γ) (tf := 226) (vf := .agg #[]) (off := 0) g14')) ?_
  rintro _ _ _ - ⟨rfl, rfl, rfl⟩
  refine go_ ?_
  (refine WL.make tab_ok rfl rfl rfl rfl rfl rfl rfl rfl (by omega) (by omega) (by omega) rfl ?_; intro pu)
  refine go_ ?_
  rw [show ((us.length : Nat) : Int).toNat = us.length from rfl]
  refine WC.loopE (fun m R' Γ' H' => ∃ i Γj d ces cc cs, R' = [(0, .pointer (some ⟨pd, 0, none⟩)), (3, .nilIface), (5, .pointer (some ⟨pb, 0, none⟩)), (8, .slice (some ⟨pu, 0, none⟩) us.length us.length), (60, .int .i64 (us.length : Int)), (61, .int .i64 ((i : Nat) : Int))] ∧ Γj = Γ' ∧
    H' = (pb, cel (bufc (.pointer (some ⟨pd, 0, none⟩)) (.bool big) nofmt (.string sInfo) (pusB big (us.take i)).length d .nilIface []) 223) :: (pu, cel (cs ++ reps (us.length - i) zUnit) 279) :: (rc, .map (ces : List MapEntry).toArray cc) :: F ∧
    m = us.length - i ∧ i ≤ us.length ∧ Γ.le Γj ∧ Byt Γj d (pusB big (us.drop i)) ∧ UCs Γj big 0 (us.take i) cs ∧ keysOf .u64 ces ∧ ∀ u ∈ us.drop i, mfind (u.abo : Int) ces 0 = none)
   ⟨0, Γ, _, [], 0, [], rfl, rfl, rfl, rfl, Nat.zero_le _, Env.le.rfl' _, hI', rfl, (fun e h => by cases h), fun _ _ => rfl⟩ sr_ sm_ ?_
  rintro m R' Γ' H' ⟨i, Γj, d, ces, cc, cs, rfl, rfl, rfl, rfl, hi, hle, hd, hcs, hks, hms⟩
  have hcl : cs.length = i * 9 := by rw [hcs.length, List.length_take, Nat.min_eq_left hi]
  rcases Nat.lt_or_ge i us.length with hlt | hge
  case inr =>
   have ei : i = us.length := by omega
   subst ei
   refine go_ ?_
   refine WC.condF rfl (decide_eq_false (by omega)) ?_
   refine go_ ?_
   rw [Nat.sub_self, show reps 0 zUnit = [] from rfl, List.append_nil]
   refine WE.drop (b := pb) pk_ ?_
   rw [List.take_length] at hcs
   exact end_2 rfl rfl rfl hle ⟨pu, cs, ces, cc, rfl, hcs, rfl⟩
  case inl =>
   obtain ⟨u, hu⟩ : ∃ u, us[i]? = some u := ⟨_, List.getElem?_eq_getElem hlt⟩
   have hou := hok u (List.mem_of_getElem? hu)
   obtain ⟨k1, k2, k3⟩ := hkk hu
   have hrep : ∀ z : List Value, reps (us.length - i) z = z ++ reps (us.length - (i + 1)) z := fun z => by
    rw [show us.length - i = (us.length - (i + 1)) + 1 by omega]; rfl
   rw [hrep]
   rw [pusB_drop hu, puB, List.append_assoc, List.append_assoc] at hd
   have hl4 := lsz_bd u.wide
   refine go_ ?_
   refine WC.condT rfl tr_ ?_
   refine go_ ?_
   refine WL.stPre (k := 0) tab_ok rfl rfl rfl pk_ spl_ (by omega) rfl rfl ?_
   refine go_ ?_
   refine WC.loop2 ?_
   refine go_ ?_
   refine WL.call rfl Tryz.call82 rfl rfl (by exact (buf_uLen k1 pk_ hd (by omega))) ?_
   rintro _ _ _ - ⟨rfl, rfl, d1, hd1, rfl⟩
   refine go_ ?_
   refine WL.stPre (k := 7) tab_ok rfl rfl rfl pk_ spl_ (by omega) rfl rfl ?_
   refine go_ ?_
   refine WE.rnd ?_
   refine go_ ?_
   refine WC.condF rfl (beq_eq_false_iff_ne.2 (by omega)) ?_
   refine go_ ?_
   have hv2 := hou.v2
   have hv5 := hou.v5
   have hsz8 := hou.size
   have e2 : decide ((u.vers : Int) < 2) = false := decide_eq_false (by omega)
   have e5 : decide ((5 : Int) < (u.vers : Int)) = false := decide_eq_false (by omega)
   have hwv : IntKind.i64.wrap (u.vers : Int) = (u.vers : Int) := w_i64 (by omega) (by omega)
   have hws : IntKind.i64.wrap (u.size : Int) = (u.size : Int) := w_i64 (by omega) (by omega)
   have hwi : IntKind.i64.wrap ((i : Int) + 1) = (i : Int) + 1 := w_i64 (by omega) (by omega)
   obtain ⟨pre, rest, hab, hpre⟩ := hou.at_
   have hA1 : Byt Γj dA (pre ++ (encAs u.abs ++ 0 :: rest)) := by rw [← hab]; exact hA.mono hle
   have hsa1 : (pre ++ (encAs u.abs ++ 0 :: rest)).length < 2147483648 := by rw [← hab]; exact hsa
   have habo : u.abo < 2147483648 := by rw [List.length_append] at hsa1; omega
   have hwo : IntKind.u64.wrap (u.abo : Int) = (u.abo : Int) := w_u64 (by omega) (by omega)
   have hms1 := hms u (by rw [List.mem_iff_getElem?]; exact ⟨0, by rw [List.getElem?_drop]; exact hu⟩)
   rw [← hpre] at hms1
   have htk : us.take (i + 1) = us.take i ++ [u] := by rw [List.take_add_one, hu]; rfl
   have hks2 : ∀ {v : Value} {x : Nat}, keysOf .u64 (ces ++ [MapEntry.mk (.int .u64 (pre.length : Int)) v x]) := fun {v x} e h => by
    rcases List.mem_append.1 h with h | h
    ·exact hks e h
    ·rw [List.mem_singleton] at h; exact ⟨_, by rw [h]⟩
   have hms2 : ∀ {v : Value} {x : Nat}, ∀ y ∈ us.drop (i + 1), mfind (y.abo : Int) (ces ++ [MapEntry.mk (.int .u64 (pre.length : Int)) v x]) 0 = none := fun {v x} y hy => by
    have hdr : us.drop i = u :: us.drop (i + 1) := by
     rw [List.drop_eq_getElem_cons hlt]
     rw [List.getElem?_eq_getElem hlt] at hu; injection hu with hu; rw [hu]
    have hpw : (us.drop i).Pairwise (fun a b => a.abo ≠ b.abo) := hdis.sublist (List.drop_sublist ..)
    rw [hdr, List.pairwise_cons] at hpw
    have hne := hpw.1 y hy
    exact mfind_snoc (y := (pre.length : Int)) rfl (by omega) hks (hms y (by rw [hdr]; exact List.mem_cons_of_mem _ hy))
   have hws : IntKind.i64.wrap (u.size : Int) = (u.size : Int) := w_i64 (by omega) (by omega)
   have hwi : IntKind.i64.wrap ((i : Int) + 1) = (i : Int) + 1 := w_i64 (by omega) (by omega)
   obtain ⟨pre, rest, hab, hpre⟩ := hou.at_
   have hA1 : Byt Γj dA (pre ++ (encAs u.abs ++ 0 :: rest)) := by rw [← hab]; exact hA.mono hle
   have hsa1 : (pre ++ (encAs u.abs ++ 0 :: rest)).length < 2147483648 := by rw [← hab]; exact hsa
   have habo : u.abo < 2147483648 := by rw [List.length_append] at hsa1; omega
   have hwo : IntKind.u64.wrap (u.abo : Int) = (u.abo : Int) := w_u64 (by omega) (by omega)
   have hms1 := hms u (by rw [List.mem_iff_getElem?]; exact ⟨0, by rw [List.getElem?_drop]; exact hu⟩)
   rw [← hpre] at hms1
   have htk : us.take (i + 1) = us.take i ++ [u] := by rw [List.take_add_one, hu]; rfl
   have hks2 : ∀ {v : Value} {x : Nat}, keysOf .u64 (ces ++ [MapEntry.mk (.int .u64 (pre.length : Int)) v x]) := fun {v x} e h => by
    rcases List.mem_append.1 h with h | h
    ·exact hks e h
    ·rw [List.mem_singleton] at h; exact ⟨_, by rw [h]⟩
   have hms2 : ∀ {v : Value} {x : Nat}, ∀ y ∈ us.drop (i + 1), mfind (y.abo : Int) (ces ++ [MapEntry.mk (.int .u64 (pre.length : Int)) v x]) 0 = none := fun {v x} y hy => by
    have hdr : us.drop i = u :: us.drop (i + 1) := by
     rw [List.drop_eq_getElem_cons hlt]
     rw [List.getElem?_eq_getElem hlt] at hu; injection hu with hu; rw [hu]
    have hpw : (us.drop i).Pairwise (fun a b => a.abo ≠ b.abo) := hdis.sublist (List.drop_sublist ..)
    rw [hdr, List.pairwise_cons] at hpw
    have hne := hpw.1 y hy
    exact mfind_snoc (y := (pre.length : Int)) rfl (by omega) hks (hms y (by rw [hdr]; exact List.mem_cons_of_mem _ hy))
   have hws : IntKind.i64.wrap (u.size : Int) = (u.size : Int) := w_i64 (by omega) (by omega)
   have hwi : IntKind.i64.wrap ((i : Int) + 1) = (i : Int) + 1 := w_i64 (by omega) (by omega)
   obtain ⟨pre, rest, hab, hpre⟩ := hou.at_
   have hA1 : Byt Γj dA (pre ++ (encAs u.abs ++ 0 :: rest)) := by rw [← hab]; exact hA.mono hle
   have hsa1 : (pre ++ (encAs u.abs ++ 0 :: rest)).length < 2147483648 := by rw [← hab]; exact hsa
   have habo : u.abo < 2147483648 := by rw [List.length_append] at hsa1; omega
   have hwo : IntKind.u64.wrap (u.abo : Int) = (u.abo : Int) := w_u64 (by omega) (by omega)
   have hms1 := hms u (by rw [List.mem_iff_getElem?]; exact ⟨0, by rw [List.getElem?_drop]; exact hu⟩)
   rw [← hpre] at hms1
   have htk : us.take (i + 1) = us.take i ++ [u] := by rw [List.take_add_one, hu]; rfl
   have hks2 : ∀ {v : Value} {x : Nat}, keysOf .u64 (ces ++ [MapEntry.mk (.int .u64 (pre.length : Int)) v x]) := fun {v x} e h => by
    rcases List.mem_append.1 h with h | h
    ·exact hks e h
    ·rw [List.mem_singleton] at h; exact ⟨_, by rw [h]⟩
   have hms2 : ∀ {v : Value} {x : Nat}, ∀ y ∈ us.drop (i + 1), mfind (y.abo : Int) (ces ++ [MapEntry.mk (.int .u64 (pre.length : Int)) v x]) 0 = none := fun {v x} y hy => by
    have hdr : us.drop i = u :: us.drop (i + 1) := by
     rw [List.drop_eq_getElem_cons hlt]
     rw [List.getElem?_eq_getElem hlt] at hu; injection hu with hu; rw [hu]
    have hpw : (us.drop i).Pairwise (fun a b => a.abo ≠ b.abo) := hdis.sublist (List.drop_sublist ..)
    rw [hdr, List.pairwise_cons] at hpw
    have hne := hpw.1 y hy
    exact mfind_snoc (y := (pre.length : Int)) rfl (by omega) hks (hms y (by rw [hdr]; exact List.mem_cons_of_mem _ hy))
   by_cases h5 : 5 ≤ u.vers
   ·skip
    have hh : hdB big u = fix u.vers 2 big ++ (fix 1 1 big ++ (fix u.size 1 big ++ offB u.wide u.abo big)) := by rw [hdB, if_pos h5]
    rw [hh, List.append_assoc, List.append_assoc, List.append_assoc] at hd1
    have hhs : hsz u = 2 + (2 + osz u.wide) := by rw [hsz, if_pos h5]
    refine WL.call rfl Tryz.call85 rfl rfl (by exact (buf_u16 (by omega) pk_ hd1 (by omega))) ?_
    rintro _ _ _ - ⟨rfl, rfl, d2, hd2, rfl⟩
    refine go_ ?_
    rw [e2]
    refine go_ ?_
    rw [e5]
    refine go_ ?_
    refine WL.stPre (k := 6) tab_ok rfl rfl rfl pk_ spl_ (by omega) rfl rfl ?_
    rw [hwv]
    refine go_ ?_
    refine WC.condT rfl (decide_eq_true (by omega)) ?_
    refine go_ ?_
    refine WL.call rfl Tryz.call68 rfl rfl (by exact (buf_u8 (by omega) pk_ hd2 (by omega))) ?_
    rintro _ _ _ - ⟨rfl, rfl, d3, hd3, rfl⟩
    refine go_ ?_
    refine WL.stPre (k := 8) tab_ok rfl rfl rfl pk_ spl_ (by omega) rfl rfl ?_
    refine go_ ?_
    refine WL.call rfl Tryz.call68 rfl rfl (by exact (buf_u8 hsz8 pk_ hd3 (by omega))) ?_
    rintro _ _ _ - ⟨rfl, rfl, d4, hd4, rfl⟩
    refine go_ ?_
    refine WL.stPre (k := 5) tab_ok rfl rfl rfl pk_ spl_ (by omega) rfl rfl ?_
    rw [hws]
    refine go_ ?_
    refine WL.ldPre (k := 7) tab_ok rfl rfl rfl pk_ rfl (by omega) rfl ?_
    refine go_ ?_
    cases hwd : u.wide
    ·rw [hwd] at hd4 hl4 hhs k3
     have hl0 : lsz false = 4 := rfl
     have ho0 : osz false = 4 := rfl
     simp only [offB, cond_false] at hd4
     refine go_ ?_
     refine WL.call rfl Tryz.call88 rfl rfl (by exact (buf_u32 (by omega) pk_ hd4 (by omega))) ?_
     rintro _ _ _ - ⟨rfl, rfl, d5, hd5, rfl⟩
     refine go_ ?_
     rw [hwo]
     refine WL.ldPre (k := 6) tab_ok rfl rfl rfl pk_ rfl (by omega) rfl ?_
     refine go_ ?_
     rw [← hpre]
     refine WL.call rfl Tryz.call89 rfl rfl (by exact (parseAbbrev_ok (hG.mono hle) pk_ hA1 (h0.mono hle).cons.cons (h12.mono hle).cons.cons (h14.mono hle).cons.cons hks hms1 hou.abs hou.dist hsa1)) ?_
     rintro _ Γk _ hle2 ⟨r, es, c, rfl, hr, hes, rfl⟩
     refine go_ ?_
     refine WL.stPre (k := 3) tab_ok rfl rfl rfl pk_ spl_ (by omega) rfl rfl ?_
     refine go_ ?_
     refine WC.condF rfl (decide_eq_false (by omega)) ?_
     refine go_ ?_
     refine WL.ldPre (k := 8) tab_ok rfl rfl rfl pk_ rfl (by omega) rfl ?_
     refine go_ ?_
     rw [show (pusB big (us.take i)).length + lsz false + 2 + 1 + 1 + 4 = (pusB big (us.take i)).length + lsz false + hsz u from by omega]
     refine WL.stPre (k := 1) tab_ok rfl rfl rfl pk_ spl_ (by omega) rfl rfl ?_
     refine go_ ?_
     rw [show IntKind.i64.wrap (IntKind.u32.wrap (((hsz u + u.body.length : Nat) : Int) - IntKind.u32.wrap ((((pusB big (us.take i)).length + lsz false + hsz u : Nat) : Int) - (((pusB big (us.take i)).length + lsz false : Nat) : Int)))) = (u.body.length : Int) from by rw [w_u32 (x := (((pusB big (us.take i)).length + lsz false + hsz u : Nat) : Int) - _) (by omega) (by omega), w_u32 (by omega) (by omega), w_i64 (by omega) (by omega)]; omega]
     refine WL.call rfl Tryz.call90 rfl rfl (by exact (buf_bytes pk_ (hd5.mono hle2) (by omega))) ?_
     rintro _ _ _ - ⟨hb, rfl, d7, hd7, rfl⟩
     have hb' := hb
     obtain ⟨ab1, cb1, rfl, -, -⟩ := hb
     refine go_ ?_
     refine WL.stPre (k := 2) tab_ok rfl rfl rfl pk_ spl_ (by omega) rfl rfl ?_
     refine go_ ?_
     rw [show (pusB big (us.take i)).length + lsz false + hsz u + u.body.length = (pusB big (us.take (i + 1))).length from by rw [pusB_take hu, puB_length, hwd]; omega]
     refine WE.again ⟨i + 1, Γk, d7, ces ++ [MapEntry.mk (.int .u64 (pre.length : Int)) (.map (some r)) cc], cc + 1, cs ++ [.int .u32 ((pusB big (us.take i)).length : Int), .int .u32 (((pusB big (us.take i)).length + lsz false + hsz u : Nat) : Int), .slice ab1 u.body.length cb1, .map (some r), .pointer none, .int .i64 (u.size : Int), .int .i64 (u.vers : Int), .bool false, .int .u8 1], rfl, rfl, rfl, rfl, hlt, hle.trans hle2, hd7, ?_, ?_, ?_⟩ (by omega) ⟨rfl, rfl, rfl, rfl, rfl, congrArg (fun z => some (Value.int .i64 z)) hwi, trivial⟩ ?_
     ·rw [htk]
      refine (hcs.mono hle2).snoc ?_
      rw [Nat.zero_add]
      exact ⟨_, r, es, c, by rw [hwd, if_pos h5], hb', hr, hes⟩
     ·exact hks2
     ·exact hms2
     ·rw [List.append_assoc]; exact sm_
    ·rw [hwd] at hd4 hl4 hhs k3
     have hl0 : lsz true = 12 := rfl
     have ho0 : osz true = 8 := rfl
     simp only [offB, cond_true] at hd4
     refine go_ ?_
     refine WL.call rfl Tryz.call87 rfl rfl (by exact (buf_u64 (by omega) pk_ hd4 (by omega))) ?_
     rintro _ _ _ - ⟨rfl, rfl, d5, hd5, rfl⟩
     refine go_ ?_
     refine WL.ldPre (k := 6) tab_ok rfl rfl rfl pk_ rfl (by omega) rfl ?_
     refine go_ ?_
     rw [← hpre]
     refine WL.call rfl Tryz.call89 rfl rfl (by exact (parseAbbrev_ok (hG.mono hle) pk_ hA1 (h0.mono hle).cons.cons (h12.mono hle).cons.cons (h14.mono hle).cons.cons hks hms1 hou.abs hou.dist hsa1)) ?_
     rintro _ Γk _ hle2 ⟨r, es, c, rfl, hr, hes, rfl⟩
     refine go_ ?_
     refine WL.stPre (k := 3) tab_ok rfl rfl rfl pk_ spl_ (by omega) rfl rfl ?_
     refine go_ ?_
     refine WC.condF rfl (decide_eq_false (by omega)) ?_
     refine go_ ?_
     refine WL.ldPre (k := 8) tab_ok rfl rfl rfl pk_ rfl (by omega) rfl ?_
     refine go_ ?_
     rw [show (pusB big (us.take i)).length + lsz true + 2 + 1 + 1 + 8 = (pusB big (us.take i)).length + lsz true + hsz u from by omega]
     refine WL.stPre (k := 1) tab_ok rfl rfl rfl pk_ spl_ (by omega) rfl rfl ?_
     refine go_ ?_
     rw [show IntKind.i64.wrap (IntKind.u32.wrap (((hsz u + u.body.length : Nat) : Int) - IntKind.u32.wrap ((((pusB big (us.take i)).length + lsz true + hsz u : Nat) : Int) - (((pusB big (us.take i)).length + lsz true : Nat) : Int)))) = (u.body.length : Int) from by rw [w_u32 (x := (((pusB big (us.take i)).length + lsz true + hsz u : Nat) : Int) - _) (by omega) (by omega), w_u32 (by omega) (by omega), w_i64 (by omega) (by omega)]; omega]
     refine WL.call rfl Tryz.call90 rfl rfl (by exact (buf_bytes pk_ (hd5.mono hle2) (by omega))) ?_
     rintro _ _ _ - ⟨hb, rfl, d7, hd7, rfl⟩
     have hb' := hb
     obtain ⟨ab1, cb1, rfl, -, -⟩ := hb
     refine go_ ?_
     refine WL.stPre (k := 2) tab_ok rfl rfl rfl pk_ spl_ (by omega) rfl rfl ?_
     refine go_ ?_
     rw [show (pusB big (us.take i)).length + lsz true + hsz u + u.body.length = (pusB big (us.take (i + 1))).length from by rw [pusB_take hu, puB_length, hwd]; omega]
     refine WE.again ⟨i + 1, Γk, d7, ces ++ [MapEntry.mk (.int .u64 (pre.length : Int)) (.map (some r)) cc], cc + 1, cs ++ [.int .u32 ((pusB big (us.take i)).length : Int), .int .u32 (((pusB big (us.take i)).length + lsz true + hsz u : Nat) : Int), .slice ab1 u.body.length cb1, .map (some r), .pointer none, .int .i64 (u.size : Int), .int .i64 (u.vers : Int), .bool true, .int .u8 1], rfl, rfl, rfl, rfl, hlt, hle.trans hle2, hd7, ?_, ?_, ?_⟩ (by omega) ⟨rfl, rfl, rfl, rfl, rfl, congrArg (fun z => some (Value.int .i64 z)) hwi, trivial⟩ ?_
     ·rw [htk]
      refine (hcs.mono hle2).snoc ?_
      rw [Nat.zero_add]
      exact ⟨_, r, es, c, by rw [hwd, if_pos h5], hb', hr, hes⟩
     ·exact hks2
     ·exact hms2
     ·rw [List.append_assoc]; exact sm_
   ·skip
    have hh : hdB big u = fix u.vers 2 big ++ (offB u.wide u.abo big ++ fix u.size 1 big) := by rw [hdB, if_neg h5]
    rw [hh, List.append_assoc, List.append_assoc] at hd1
    have hhs : hsz u = 2 + (osz u.wide + 1) := by rw [hsz, if_neg h5]
    refine WL.call rfl Tryz.call85 rfl rfl (by exact (buf_u16 (by omega) pk_ hd1 (by omega))) ?_
    rintro _ _ _ - ⟨rfl, rfl, d2, hd2, rfl⟩
    refine go_ ?_
    rw [e2]
    refine go_ ?_
    rw [e5]
    refine go_ ?_
    refine WL.stPre (k := 6) tab_ok rfl rfl rfl pk_ spl_ (by omega) rfl rfl ?_
    rw [hwv]
    refine go_ ?_
    refine WC.condF rfl (decide_eq_false (by omega)) ?_
    refine go_ ?_
    refine WL.ldPre (k := 7) tab_ok rfl rfl rfl pk_ rfl (by omega) rfl ?_
    refine go_ ?_
    cases hwd : u.wide
    ·rw [hwd] at hd2 hl4 hhs k3
     have hl0 : lsz false = 4 := rfl
     have ho0 : osz false = 4 := rfl
     simp only [offB, cond_false] at hd2
     refine go_ ?_
     refine WL.call rfl Tryz.call88 rfl rfl (by exact (buf_u32 (by omega) pk_ hd2 (by omega))) ?_
     rintro _ _ _ - ⟨rfl, rfl, d5, hd5, rfl⟩
     refine go_ ?_
     rw [hwo]
     refine WL.ldPre (k := 6) tab_ok rfl rfl rfl pk_ rfl (by omega) rfl ?_
     refine go_ ?_
     rw [← hpre]
     refine WL.call rfl Tryz.call89 rfl rfl (by exact (parseAbbrev_ok (hG.mono hle) pk_ hA1 (h0.mono hle).cons.cons (h12.mono hle).cons.cons (h14.mono hle).cons.cons hks hms1 hou.abs hou.dist hsa1)) ?_
     rintro _ Γk _ hle2 ⟨r, es, c, rfl, hr, hes, rfl⟩
     refine go_ ?_
     refine WL.stPre (k := 3) tab_ok rfl rfl rfl pk_ spl_ (by omega) rfl rfl ?_
     refine go_ ?_
     refine WC.condT rfl (decide_eq_true (by omega)) ?_
     refine go_ ?_
     refine WL.call rfl Tryz.call68 rfl rfl (by exact (buf_u8 hsz8 pk_ (hd5.mono hle2) (by omega))) ?_
     rintro _ _ _ - ⟨rfl, rfl, d6, hd6, rfl⟩
     refine go_ ?_
     refine WL.stPre (k := 5) tab_ok rfl rfl rfl pk_ spl_ (by omega) rfl rfl ?_
     rw [hws]
     refine go_ ?_
     refine WL.ldPre (k := 8) tab_ok rfl rfl rfl pk_ rfl (by omega) rfl ?_
     refine go_ ?_
     rw [show (pusB big (us.take i)).length + lsz false + 2 + 4 + 1 = (pusB big (us.take i)).length + lsz false + hsz u from by omega]
     refine WL.stPre (k := 1) tab_ok rfl rfl rfl pk_ spl_ (by omega) rfl rfl ?_
     refine go_ ?_
     rw [show IntKind.i64.wrap (IntKind.u32.wrap (((hsz u + u.body.length : Nat) : Int) - IntKind.u32.wrap ((((pusB big (us.take i)).length + lsz false + hsz u : Nat) : Int) - (((pusB big (us.take i)).length + lsz false : Nat) : Int)))) = (u.body.length : Int) from by rw [w_u32 (x := (((pusB big (us.take i)).length + lsz false + hsz u : Nat) : Int) - _) (by omega) (by omega), w_u32 (by omega) (by omega), w_i64 (by omega) (by omega)]; omega]
     refine WL.call rfl Tryz.call90 rfl rfl (by exact (buf_bytes pk_ hd6 (by omega))) ?_
     rintro _ _ _ - ⟨hb, rfl, d7, hd7, rfl⟩
     have hb' := hb
     obtain ⟨ab1, cb1, rfl, -, -⟩ := hb
     refine go_ ?_
     refine WL.stPre (k := 2) tab_ok rfl rfl rfl pk_ spl_ (by omega) rfl rfl ?_
     refine go_ ?_
     rw [show (pusB big (us.take i)).length + lsz false + hsz u + u.body.length = (pusB big (us.take (i + 1))).length from by rw [pusB_take hu, puB_length, hwd]; omega]
     refine WE.again ⟨i + 1, Γk, d7, ces ++ [MapEntry.mk (.int .u64 (pre.length : Int)) (.map (some r)) cc], cc + 1, cs ++ [.int .u32 ((pusB big (us.take i)).length : Int), .int .u32 (((pusB big (us.take i)).length + lsz false + hsz u : Nat) : Int), .slice ab1 u.body.length cb1, .map (some r), .pointer none, .int .i64 (u.size : Int), .int .i64 (u.vers : Int), .bool false, .int .u8 0], rfl, rfl, rfl, rfl, hlt, hle.trans hle2, hd7, ?_, ?_, ?_⟩ (by omega) ⟨rfl, rfl, rfl, rfl, rfl, congrArg (fun z => some (Value.int .i64 z)) hwi, trivial⟩ ?_
     ·rw [htk]
      refine (hcs.mono hle2).snoc ?_
      rw [Nat.zero_add]
      exact ⟨_, r, es, c, by rw [hwd, if_neg h5], hb', hr, hes⟩
     ·exact hks2
     ·exact hms2
     ·rw [List.append_assoc]; exact sm_
    ·rw [hwd] at hd2 hl4 hhs k3
     have hl0 : lsz true = 12 := rfl
     have ho0 : osz true = 8 := rfl
     simp only [offB, cond_true] at hd2
     refine go_ ?_
     refine WL.call rfl Tryz.call87 rfl rfl (by exact (buf_u64 (by omega) pk_ hd2 (by omega))) ?_
     rintro _ _ _ - ⟨rfl, rfl, d5, hd5, rfl⟩
     refine go_ ?_
     refine WL.ldPre (k := 6) tab_ok rfl rfl rfl pk_ rfl (by omega) rfl ?_
     refine go_ ?_
     rw [← hpre]
     refine WL.call rfl Tryz.call89 rfl rfl (by exact (parseAbbrev_ok (hG.mono hle) pk_ hA1 (h0.mono hle).cons.cons (h12.mono hle).cons.cons (h14.mono hle).cons.cons hks hms1 hou.abs hou.dist hsa1)) ?_
     rintro _ Γk _ hle2 ⟨r, es, c, rfl, hr, hes, rfl⟩
     refine go_ ?_
     refine WL.stPre (k := 3) tab_ok rfl rfl rfl pk_ spl_ (by omega) rfl rfl ?_
     refine go_ ?_
     refine WC.condT rfl (decide_eq_true (by omega)) ?_
     refine go_ ?_
     refine WL.call rfl Tryz.call68 rfl rfl (by exact (buf_u8 hsz8 pk_ (hd5.mono hle2) (by omega))) ?_
     rintro _ _ _ - ⟨rfl, rfl, d6, hd6, rfl⟩
     refine go_ ?_
     refine WL.stPre (k := 5) tab_ok rfl rfl rfl pk_ spl_ (by omega) rfl rfl ?_
     rw [hws]
     refine go_ ?_
     refine WL.ldPre (k := 8) tab_ok rfl rfl rfl pk_ rfl (by omega) rfl ?_
     refine go_ ?_
     rw [show (pusB big (us.take i)).length + lsz true + 2 + 8 + 1 = (pusB big (us.take i)).length + lsz true + hsz u from by omega]
     refine WL.stPre (k := 1) tab_ok rfl rfl rfl pk_ spl_ (by omega) rfl rfl ?_
     refine go_ ?_
     rw [show IntKind.i64.wrap (IntKind.u32.wrap (((hsz u + u.body.length : Nat) : Int) - IntKind.u32.wrap ((((pusB big (us.take i)).length + lsz true + hsz u : Nat) : Int) - (((pusB big (us.take i)).length + lsz true : Nat) : Int)))) = (u.body.length : Int) from by rw [w_u32 (x := (((pusB big (us.take i)).length + lsz true + hsz u : Nat) : Int) - _) (by omega) (by omega), w_u32 (by omega) (by omega), w_i64 (by omega) (by omega)]; omega]
     refine WL.call rfl Tryz.call90 rfl rfl (by exact (buf_bytes pk_ hd6 (by omega))) ?_
     rintro _ _ _ - ⟨hb, rfl, d7, hd7, rfl⟩
     have hb' := hb
     obtain ⟨ab1, cb1, rfl, -, -⟩ := hb
     refine go_ ?_
     refine WL.stPre (k := 2) tab_ok rfl rfl rfl pk_ spl_ (by omega) rfl rfl ?_
     refine go_ ?_
     rw [show (pusB big (us.take i)).length + lsz true + hsz u + u.body.length = (pusB big (us.take (i + 1))).length from by rw [pusB_take hu, puB_length, hwd]; omega]
     refine WE.again ⟨i + 1, Γk, d7, ces ++ [MapEntry.mk (.int .u64 (pre.length : Int)) (.map (some r)) cc], cc + 1, cs ++ [.int .u32 ((pusB big (us.take i)).length : Int), .int .u32 (((pusB big (us.take i)).length + lsz true + hsz u : Nat) : Int), .slice ab1 u.body.length cb1, .map (some r), .pointer none, .int .i64 (u.size : Int), .int .i64 (u.vers : Int), .bool true, .int .u8 0], rfl, rfl, rfl, rfl, hlt, hle.trans hle2, hd7, ?_, ?_, ?_⟩ (by omega) ⟨rfl, rfl, rfl, rfl, rfl, congrArg (fun z => some (Value.int .i64 z)) hwi, trivial⟩ ?_
     ·rw [htk]
      refine (hcs.mono hle2).snoc ?_
      rw [Nat.zero_add]
      exact ⟨_, r, es, c, by rw [hwd, if_neg h5], hb', hr, hes⟩
     ·exact hks2
     ·exact hms2
     ·rw [List.append_assoc]; exact sm_
end Go.Proofs.YtbgkbgoonjkghaaGreatDoor
namespace Go.Sl
open Go
section
variable {P : Program} {ops : Array Oper} {Q : Post} {n : Nat} {D : List Deferred} {R : Regs} {Γ Γs : Env} {H Hs : List Blk} {rest : List Oper}
theorem subH_of {H : List Blk} : ∀ {r : List Blk}, (∀ x ∈ r, x ∈ H) → subH H r
 | [], _ => trivial
 | (b, o) :: r, h => ⟨by
   have : ∀ {H : List Blk} {b : Nat} {o : Obj}, (b, o) ∈ H → ∃ H', Pick H b o H' := fun {H b o} hm => by
    induction H with
    | nil => cases hm
    | cons x H ih =>
     rcases List.mem_cons.1 hm with rfl | hm
     ·exact ⟨_, .here⟩
     ·obtain ⟨H', hp⟩ := ih hm
      exact ⟨_, .there hp⟩
   exact this (h _ (List.mem_cons_self ..)), subH_of fun x hx => h x (List.mem_cons_of_mem _ hx)⟩
theorem subH_self (H : List Blk) : subH H H := subH_of fun _ h => h
theorem subH_cons {x : Blk} (h : subH H Hs) : subH (x :: H) Hs := subH_of fun y hy => List.mem_cons_of_mem _ (subH_mem h y hy)
theorem Ld.rd {T : Tab} (hT : TabOk P T) {t : TypeId} {b o : Nat} {j : TI} {v : Value}
  (hj : T.get t = some j) (ha : TypeDesc.agg j.desc = false) (h : Rd Γs Hs b o v) : Ld P Γs Hs t b o v := by
 rcases h with h | ⟨c, tt, fz, F, hp, e⟩
 ·exact Ld.imm hT hj ha h
 ·exact Ld.own hT hj ha hp (by rw [lget_eq]; simpa using e)
end
end Go.Sl
namespace Go.Proofs.YtbgkbgoonjkghaaGreatDoor
open Go Go.Sl
set_option maxRecDepth 10000
set_option maxHeartbeats 4000000
theorem gx_ {p q : Prop} (k : q) (h : Wrp q → p := by intro k; (repeat (first | (refine WC.g ?_; first | refine WC.seqRun tab_ok rfl ?_ | refine WC.condF rfl rfl ?_ | refine WC.condT rfl rfl ?_ | refine WC.seq ?_ | refine WC.regRun tab_ok rfl ?_ | refine WC.region ?_ | refine WC.ret ?_ | refine WC.exit ?_ | refine WC.skip ?_ | refine WC.block ?_) | (refine WL.g ?_; first | refine WL.nil ?_ | refine WL.run tab_ok rfl rfl ?_ | (refine WL.gLoad ?_; first | refine WL.ld tab_ok rfl rfl rfl pk_ rfl rfl ?_ | refine WL.ldA tab_ok rfl rfl rfl pk_ cut_ rfl ?_ | refine WL.ldI tab_ok rfl rfl rfl (by assumption) rfl ?_ | refine WL.ldR tab_ok rfl rfl rfl (by (repeat (first | assumption | apply Rd.cons)); (first | done | fail)) rfl ?_) | (refine WL.gStore ?_; refine WL.st tab_ok rfl rfl rfl pk_ spl_ rfl rfl ?_) | (refine WL.gIdx ?_; refine WL.idx tab_ok rfl rfl rfl rfl (by omega) (by omega) rfl ?_) | (refine WL.gBuild ?_; refine WL.build tab_ok rfl spi_ rfl ?_) | (refine WL.gSlice ?_; first | refine WL.slLo tab_ok rfl rfl rfl rfl (by omega) (by omega) (by omega) rfl ?_ | refine WL.slHi tab_ok rfl rfl rfl rfl (by omega) (by omega) rfl ?_ | refine WL.slLH tab_ok rfl rfl rfl rfl rfl (by omega) (by omega) (by omega) rfl ?_) | (refine WL.gBin ?_; first | refine WL.pure tab_ok (evalP_shl rfl rfl (by omega)) rfl ?_ | refine WL.pure tab_ok (evalP_shr rfl rfl (by omega)) rfl ?_) | refine WL.pure tab_ok rfl rfl ?_ | (refine WL.gGuard ?_; first | refine WL.yes rfl rfl rfl ?_ | refine WL.no rfl rfl rfl rfl rfl ?_)) | (refine WE.g ?_; first | refine WE.then_ ?_ | refine WE.thenX rfl ?_ | refine WE.block_n ?_ | refine WE.block_x ?_ | refine WE.block_y rfl ?_ | refine WE.block_r ?_ | apply WE.drawnL | (apply WE.drawn; exact (by first | exact Env.le.rfl' _ | assumption); exact xsb_)))); exact k.out) : p := h ⟨k⟩
theorem dx_ {p q : Prop} (k : q) (h : Wrp q → p := by intro k; (repeat (first | (refine WD.g ?_; first | refine WD.one rfl ?_ | refine WD.done ?_ | (refine WD.gTake ?_; first | refine WD.run tab_ok np_ rfl rfl ?_ | (refine WD.at_ rfl ?_; (first | (refine WT.gLoad ?_; first | refine WT.load np_ rfl rfl (by first | exact Ld.own tab_ok rfl rfl pk_ rfl | exact Ld.ownA tab_ok rfl rfl pk_ cut_ | exact Ld.imm tab_ok rfl rfl (by assumption) | exact Ld.rd tab_ok rfl rfl (by (repeat (first | assumption | apply Rd.cons)); (first | done | fail))) ?_ | refine WT.loadG np_ rfl rfl rfl (by first | exact Ld.own tab_ok rfl rfl pk_ rfl | exact Ld.ownA tab_ok rfl rfl pk_ cut_ | exact Ld.imm tab_ok rfl rfl (by assumption) | exact Ld.rd tab_ok rfl rfl (by (repeat (first | assumption | apply Rd.cons)); (first | done | fail))) ?_) | (refine WT.gIdx ?_; first | refine WT.idx tab_ok np_ rfl rfl rfl rfl rfl (by omega) (by omega) ?_ | refine WT.idxG tab_ok np_ rfl rfl rfl rfl rfl rfl (by omega) (by omega) ?_) | (refine WT.gSlice ?_; refine WT.slLo tab_ok np_ rfl rfl rfl rfl rfl (by omega) (by omega) (by omega) ?_) | (refine WT.gBuild ?_; refine WT.build tab_ok np_ rfl rfl spi_ ?_) | refine WT.pure tab_ok np_ rfl rfl ?_)))) | (refine WL.g ?_; first | refine WL.nil ?_ | refine WL.run tab_ok rfl rfl ?_ | (refine WL.gLoad ?_; first | refine WL.ld tab_ok rfl rfl rfl pk_ rfl rfl ?_ | refine WL.ldA tab_ok rfl rfl rfl pk_ cut_ rfl ?_ | refine WL.ldI tab_ok rfl rfl rfl (by assumption) rfl ?_ | refine WL.ldR tab_ok rfl rfl rfl (by (repeat (first | assumption | apply Rd.cons)); (first | done | fail)) rfl ?_) | (refine WL.gStore ?_; refine WL.st tab_ok rfl rfl rfl pk_ spl_ rfl rfl ?_) | (refine WL.gIdx ?_; refine WL.idx tab_ok rfl rfl rfl rfl (by omega) (by omega) rfl ?_) | (refine WL.gBuild ?_; refine WL.build tab_ok rfl spi_ rfl ?_) | (refine WL.gSlice ?_; first | refine WL.slLo tab_ok rfl rfl rfl rfl (by omega) (by omega) (by omega) rfl ?_ | refine WL.slHi tab_ok rfl rfl rfl rfl (by omega) (by omega) rfl ?_ | refine WL.slLH tab_ok rfl rfl rfl rfl rfl (by omega) (by omega) (by omega) rfl ?_) | (refine WL.gBin ?_; first | refine WL.pure tab_ok (evalP_shl rfl rfl (by omega)) rfl ?_ | refine WL.pure tab_ok (evalP_shr rfl rfl (by omega)) rfl ?_) | refine WL.pure tab_ok rfl rfl ?_ | (refine WL.gGuard ?_; first | refine WL.yes rfl rfl rfl ?_ | refine WL.no rfl rfl rfl rfl rfl ?_)) | (refine WE.g ?_; first | refine WE.then_ ?_ | refine WE.thenX rfl ?_ | refine WE.block_n ?_ | refine WE.block_x ?_ | refine WE.block_y rfl ?_ | refine WE.block_r ?_ | apply WE.drawnL | (apply WE.drawn; exact (by first | exact Env.le.rfl' _ | assumption); exact xsb_)))); exact k.out) : p := h ⟨k⟩
end Go.Proofs.YtbgkbgoonjkghaaGreatDoor
namespace Go.Sl
open Go
structure Att where
 attr : Int
 form : Int
 ind : Bool
 n : Nat
 s : ByteArray
 b : List UInt8
structure Nod where
 tag : Int
 ch : Bool
 sib : Bool
 atts : List Att
structure Uni where
 vers : Int
 wide : Bool
 size : Int
 nods : List Nod
structure Pie where
 kind : Int
 a : Nat
 b : Nat
structure Spn where
 low : Nat
 high : Nat
 len : Bool
 lst : Bool
 pies : List Pie
structure Lay where
 vers : Int
 wide : Bool
 size : Int
 big : Bool
 far : Bool
def offSz (wide : Bool) : Nat := bif wide then 8 else 4
def szOf (vers : Int) (wide : Bool) (size : Int) (f : Int) : Nat :=
 if f = 11 ∨ f = 12 ∨ f = 17 then 1 else if f = 5 ∨ f = 18 then 2 else if f = 6 ∨ f = 19 then 4 else if f = 7 ∨ f = 20 ∨ f = 32 then 8
 else if f = 1 then size.toNat else if f = 16 then (if vers = 2 then size.toNat else offSz wide) else if f = 23 then offSz wide else 0
def clsOf (v a f : Int) : Int × Bool :=
 if f = 1 then (1, a == 17 || a == 82)
 else if f = 3 ∨ f = 4 ∨ f = 9 ∨ f = 10 then (2, a == 28)
 else if f = 5 ∨ f = 11 ∨ f = 13 ∨ f = 15 then (3, a == 11 || a == 28 || a == 59)
 else if f = 6 ∨ f = 7 then (3, a == 11 || a == 59)
 else if f = 33 then (3, decide (4 < v) && (a == 11 || a == 28 || a == 59))
 else if f = 12 then (5, a == 63 || a == 52)
 else if f = 25 then (5, decide (3 < v) && (a == 63 || a == 52))
 else if f = 16 ∨ f = 17 ∨ f = 18 ∨ f = 19 ∨ f = 20 ∨ f = 21 then (10, a == 73 || a == 49)
 else if f = 32 then (11, decide (3 < v) && a == 73)
 else if f = 8 ∨ f = 14 then (12, a == 3 || a == 27 || a == 37)
 else if f = 31 then (12, decide (4 < v) && (a == 3 || a == 27 || a == 37))
 else if f = 24 then (4, decide (3 < v) && (a == 2 || a == 64))
 else if f = 23 then (6, decide (3 < v) && a == 16)
 else (0, false)
def NoZero (s : ByteArray) : Prop := ∀ x ∈ s.data.toList, x ≠ 0
abbrev FormA (f : Int) : Prop := f = 1 ∨ f = 3 ∨ f = 4 ∨ f = 9 ∨ f = 10 ∨ f = 5 ∨ f = 11 ∨ f = 13 ∨ f = 15 ∨ f = 6 ∨ f = 7 ∨ f = 33 ∨ f = 12 ∨ f = 25 ∨ f = 16 ∨ f = 17 ∨ f = 18 ∨ f = 19 ∨ f = 20 ∨ f = 21 ∨ f = 32 ∨ f = 8 ∨ f = 14 ∨ f = 31 ∨ f = 24 ∨ f = 23
structure OkAtt (v : Int) (w : Bool) (z : Int) (a : Att) : Prop where
 frm : FormA a.form
 at0 : 0 < a.attr
 at1 : a.attr < 114
 ind : a.ind = true → a.form ≠ 33
 n64 : a.n < 18446744073709551616
 fit : 0 < szOf v w z a.form → szOf v w z a.form < 8 → a.n < 256 ^ szOf v w z a.form
 b1 : a.form = 10 → a.b.length < 256
 b2 : a.form = 3 → a.b.length < 65536
 flag : (clsOf v a.attr a.form).1 = 5 → a.n ≤ 1
 ref : (clsOf v a.attr a.form).1 = 10 → a.n < 2147483648
 sec : (clsOf v a.attr a.form).1 = 6 → a.n < 2147483648
 text : (clsOf v a.attr a.form).1 = 12 → NoZero a.s
 udata : a.form = 15 → a.n < 9223372036854775808
 slen : a.s.data.size ≤ 4096
 blen : a.b.length ≤ 4096
def i64w (n : Nat) : Int := IntKind.i64.wrap (n : Int)
def attE (v : Int) (w : Bool) (z : Int) (big : Bool) (so lo : Nat) (a : Att) : List UInt8 :=
 if 0 < szOf v w z a.form then fix a.n (szOf v w z a.form) big
 else if a.form = 10 then fix a.b.length 1 big ++ a.b
 else if a.form = 3 then fix a.b.length 2 big ++ a.b
 else if a.form = 4 then fix a.b.length 4 big ++ a.b
 else if a.form = 9 ∨ a.form = 24 then ulebL a.b.length ++ a.b
 else if a.form = 8 then a.s.data.toList ++ [0]
 else if a.form = 13 then slebL (i64w a.n)
 else if a.form = 15 ∨ a.form = 21 then ulebL a.n
 else if a.form = 14 then fix so (offSz w) big
 else if a.form = 31 then fix lo (offSz w) big
 else []
def attS (a : Att) : List UInt8 := if a.form = 14 then a.s.data.toList ++ [0] else []
def attL (a : Att) : List UInt8 := if a.form = 31 then a.s.data.toList ++ [0] else []
inductive FV where
 | u (n : Nat)
 | i (z : Int)
 | b (b : Bool)
 | s (t : ByteArray)
 | bs (l : List UInt8)
 | o (n : Nat)
structure Ctx where
 vers : Int
 wide : Bool
 size : Nat
 base : Nat
 big : Bool
 str : List UInt8
 lin : List UInt8
inductive Dec (c : Ctx) (val : Int) : Nat → List UInt8 → FV → Prop where
 | addr (n : Nat) : n < 256 ^ c.size → Dec c val 1 (fix n c.size c.big) (.u n)
 | blk1 (l : List UInt8) : l.length < 256 → Dec c val 10 (fix l.length 1 c.big ++ l) (.bs l)
 | blk2 (l : List UInt8) : l.length < 65536 → Dec c val 3 (fix l.length 2 c.big ++ l) (.bs l)
 | blk4 (l : List UInt8) : l.length < 2147483648 → Dec c val 4 (fix l.length 4 c.big ++ l) (.bs l)
 | blk (l : List UInt8) : l.length < 2147483648 → Dec c val 9 (ulebL l.length ++ l) (.bs l)
 | exp (l : List UInt8) : l.length < 2147483648 → Dec c val 24 (ulebL l.length ++ l) (.bs l)
 | d1 (n : Nat) : n < 256 → Dec c val 11 (fix n 1 c.big) (.i n)
 | d2 (n : Nat) : n < 65536 → Dec c val 5 (fix n 2 c.big) (.i n)
 | d4 (n : Nat) : n < 4294967296 → Dec c val 6 (fix n 4 c.big) (.i n)
 | d8 (n : Nat) : n < 18446744073709551616 → Dec c val 7 (fix n 8 c.big) (.i (i64w n))
 | sd (z : Int) : -9223372036854775808 ≤ z → z < 9223372036854775808 → Dec c val 13 (slebL z) (.i z)
 | ud (n : Nat) : n < 18446744073709551616 → Dec c val 15 (ulebL n) (.i (i64w n))
 | imp : Dec c val 33 [] (.i val)
 | flag (n : Nat) : n < 256 → Dec c val 12 (fix n 1 c.big) (.b (n == 1))
 | pres : Dec c val 25 [] (.b true)
 | radr2 (n : Nat) : c.vers = 2 → n < 256 ^ c.size → n < 4294967296 → Dec c val 16 (fix n c.size c.big) (.o n)
 | radr (n : Nat) : c.vers ≠ 2 → c.vers ≠ 0 → n < 4294967296 → Dec c val 16 (fix n (offSz c.wide) c.big) (.o n)
 | ref1 (n : Nat) : n < 256 → n + c.base < 4294967296 → Dec c val 17 (fix n 1 c.big) (.o (n + c.base))
 | ref2 (n : Nat) : n < 65536 → n + c.base < 4294967296 → Dec c val 18 (fix n 2 c.big) (.o (n + c.base))
 | ref4 (n : Nat) : n + c.base < 4294967296 → Dec c val 19 (fix n 4 c.big) (.o (n + c.base))
 | ref8 (n : Nat) : n + c.base < 4294967296 → Dec c val 20 (fix n 8 c.big) (.o (n + c.base))
 | refu (n : Nat) : n + c.base < 4294967296 → Dec c val 21 (ulebL n) (.o (n + c.base))
 | sig (n : Nat) : n < 18446744073709551616 → Dec c val 32 (fix n 8 c.big) (.u n)
 | str (t : ByteArray) : NoZero t → Dec c val 8 (t.data.toList ++ [0]) (.s t)
 | strp (k : Nat) (t : ByteArray) (l : List UInt8) : NoZero t → c.str.drop k = t.data.toList ++ 0 :: l → k < 2147483648 → Dec c val 14 (fix k (offSz c.wide) c.big) (.s t)
 | lstrp (k : Nat) (t : ByteArray) (l : List UInt8) : NoZero t → c.lin.drop k = t.data.toList ++ 0 :: l → k < 2147483648 → Dec c val 31 (fix k (offSz c.wide) c.big) (.s t)
 | sec (n : Nat) : n < 2147483648 → Dec c val 23 (fix n (offSz c.wide) c.big) (.i n)
structure Itm where
 attr : Nat
 form : Nat
 ind : Bool
 val : Int
 enc : List UInt8
 fv : FV
def Itm.abF (x : Itm) : AbF := ⟨x.attr, if x.ind then 22 else x.form, x.val⟩
def Itm.text (x : Itm) : List UInt8 := (if x.ind then ulebL x.form else []) ++ x.enc
def itexts : List Itm → List UInt8
 | [] => []
 | x :: l => x.text ++ itexts l
structure OkItm (c : Ctx) (x : Itm) : Prop where
 attr : x.attr < 4294967296
 ind : x.ind = true → x.form ≠ 33
 dec : Dec c x.val x.form x.enc x.fv
def attFV (v : Int) (base : Nat) (a : Att) : FV :=
 let k := (clsOf v a.attr a.form).1
 if k = 1 ∨ k = 11 then .u a.n else if k = 2 ∨ k = 4 then .bs a.b else if k = 3 ∨ k = 6 then .i (i64w a.n)
 else if k = 5 then .b (if a.form = 25 then true else a.n == 1) else if k = 10 then .o (if a.form = 16 then a.n else a.n + base) else .s a.s
def attI (v : Int) (w : Bool) (z : Int) (big : Bool) (base so lo : Nat) (a : Att) : Itm :=
 ⟨a.attr.toNat, a.form.toNat, a.ind, if a.form = 33 then i64w a.n else 0, attE v w z big so lo a, attFV v base a⟩
theorem i64w_small {n : Nat} (h : n < 9223372036854775808) : i64w n = n := by unfold i64w; rw [Go.Sl.w64]; omega
theorem i64w_bd (n : Nat) : -9223372036854775808 ≤ i64w n ∧ i64w n < 9223372036854775808 := by unfold i64w; rw [Go.Sl.w64]; omega
set_option maxHeartbeats 4000000 in
theorem dec_att {c : Ctx} {z : Int} {a : Att} {so lo : Nat} (hz : z = 4 ∨ z = 8) (hcz : c.size = z.toNat) (hv : 2 ≤ c.vers) (h : OkAtt c.vers c.wide z a) (hb : c.base < 2147483648)
  (hs : a.form = 14 → so < 2147483648 ∧ ∃ l, c.str.drop so = a.s.data.toList ++ 0 :: l) (hl : a.form = 31 → lo < 2147483648 ∧ ∃ l, c.lin.drop lo = a.s.data.toList ++ 0 :: l) :
  OkItm c (attI c.vers c.wide z c.big c.base so lo a) := by
 obtain ⟨attr, form, ind, n, s, b⟩ := a
 have hn : n < 18446744073709551616 := h.n64
 have hbl : b.length ≤ 4096 := h.blen
 have hf : form = 1 ∨ form = 3 ∨ form = 4 ∨ form = 9 ∨ form = 10 ∨ form = 5 ∨ form = 11 ∨ form = 13 ∨ form = 15 ∨ form = 6 ∨ form = 7 ∨ form = 33 ∨ form = 12 ∨ form = 25 ∨ form = 16 ∨ form = 17 ∨ form = 18 ∨ form = 19 ∨ form = 20 ∨ form = 21 ∨ form = 32 ∨ form = 8 ∨ form = 14 ∨ form = 31 ∨ form = 24 ∨ form = 23 := h.frm
 have ha : 0 < attr ∧ attr < 114 := ⟨h.at0, h.at1⟩
 refine ⟨by simp only [attI]; clear hs hl; omega, fun hi => by
  have : form ≠ 33 := h.ind hi
  simp only [attI, ne_eq]; clear hs hl; omega, ?_⟩
 simp only [attI]
 have h2 : z.toNat = 4 ∨ z.toNat = 8 := by omega
 have hp4 : (256 : Nat) ^ 4 = 4294967296 := by decide
 have hp8 : (256 : Nat) ^ 8 = 18446744073709551616 := by decide
 rcases hf with rfl | rfl | rfl | rfl | rfl | rfl | rfl | rfl | rfl | rfl | rfl | rfl | rfl | rfl | rfl | rfl | rfl | rfl | rfl | rfl | rfl | rfl | rfl | rfl | rfl | rfl
 ·
  have e : attE c.vers c.wide z c.big so lo ⟨attr, 1, ind, n, s, b⟩ = fix n c.size c.big := by
   rw [hcz]; simp only [attE, szOf]; rcases h2 with h | h <;> simp [h]
  have e2 : attFV c.vers c.base ⟨attr, 1, ind, n, s, b⟩ = .u n := rfl
  rw [e, e2]
  refine Dec.addr n ?_
  have : szOf c.vers c.wide z 1 = c.size := by rw [hcz]; rfl
  have hfit := h.fit
  simp only [this] at hfit
  rcases h2 with h | h <;> rw [← hcz] at h
  ·exact hfit (by omega) (by omega)
  ·rw [h, hp8]; omega
 ·exact Dec.blk2 b (h.b2 rfl)
 ·exact Dec.blk4 b (by omega)
 ·exact Dec.blk b (by omega)
 ·exact Dec.blk1 b (h.b1 rfl)
 ·have h : n < 65536 := h.fit (show 0 < 2 by decide) (show 2 < 8 by decide)
  have e2 : attFV c.vers c.base ⟨attr, 5, ind, n, s, b⟩ = .i n := congrArg FV.i (i64w_small (n := n) (by omega))
  rw [e2]; exact Dec.d2 n h
 ·have h : n < 256 := h.fit (show 0 < 1 by decide) (show 1 < 8 by decide)
  have e2 : attFV c.vers c.base ⟨attr, 11, ind, n, s, b⟩ = .i n := congrArg FV.i (i64w_small (n := n) (by omega))
  rw [e2]; exact Dec.d1 n h
 ·exact Dec.sd _ (i64w_bd n).1 (i64w_bd n).2
 ·exact Dec.ud n hn
 ·have h : n < 4294967296 := h.fit (show 0 < 4 by decide) (show 4 < 8 by decide)
  have e2 : attFV c.vers c.base ⟨attr, 6, ind, n, s, b⟩ = .i n := congrArg FV.i (i64w_small (n := n) (by omega))
  rw [e2]; exact Dec.d4 n h
 ·exact Dec.d8 n hn
 ·exact Dec.imp
 ·have h : n < 256 := h.fit (show 0 < 1 by decide) (show 1 < 8 by decide)
  exact Dec.flag n h
 ·exact Dec.pres
 ·have hr : n < 2147483648 := h.ref rfl
  by_cases hv2 : c.vers = 2
  ·have e : attE c.vers c.wide z c.big so lo ⟨attr, 16, ind, n, s, b⟩ = fix n c.size c.big := by
    rw [hcz]; simp only [attE, szOf]; rw [if_pos hv2]; rcases h2 with h | h <;> simp [h]
   rw [e]
   refine Dec.radr2 n hv2 ?_ (by omega)
   rcases h2 with h | h <;> rw [← hcz] at h <;> rw [h]
   ·omega
   ·omega
  ·have e : attE c.vers c.wide z c.big so lo ⟨attr, 16, ind, n, s, b⟩ = fix n (offSz c.wide) c.big := by
    simp only [attE, szOf]; rw [if_neg hv2]; cases c.wide <;> rfl
   rw [e]
   exact Dec.radr n hv2 (by omega) (by omega)
 ·have h : n < 256 := h.fit (show 0 < 1 by decide) (show 1 < 8 by decide)
  exact Dec.ref1 n h (by omega)
 ·have h : n < 65536 := h.fit (show 0 < 2 by decide) (show 2 < 8 by decide)
  exact Dec.ref2 n h (by omega)
 ·have hr : n < 2147483648 := h.ref rfl
  exact Dec.ref4 n (by omega)
 ·have hr : n < 2147483648 := h.ref rfl
  exact Dec.ref8 n (by omega)
 ·have hr : n < 2147483648 := h.ref rfl
  exact Dec.refu n (by omega)
 ·exact Dec.sig n hn
 ·exact Dec.str s (h.text rfl)
 ·obtain ⟨h1, l, h3⟩ := hs rfl
  exact Dec.strp so s l (h.text rfl) h3 h1
 ·obtain ⟨h1, l, h3⟩ := hl rfl
  exact Dec.lstrp lo s l (h.text rfl) h3 h1
 ·exact Dec.exp b (by omega)
 ·have hr : n < 2147483648 := h.sec rfl
  have e2 : attFV c.vers c.base ⟨attr, 23, ind, n, s, b⟩ = .i n := congrArg FV.i (i64w_small (n := n) (by omega))
  have e : attE c.vers c.wide z c.big so lo ⟨attr, 23, ind, n, s, b⟩ = fix n (offSz c.wide) c.big := by
   simp only [attE, szOf]; cases c.wide <;> rfl
  rw [e2, e]; exact Dec.sec n hr
section
variable {P : Program} {Q : Post} {n : Nat} {D : List Deferred} {R : Regs} {Γ : Env} {H : List Blk}
def Mid (M : Regs → Env → List Blk → Prop) (n : Nat) (D : List Deferred) : Act → World → Prop := fun a w => ∃ R' Γ' H', M R' Γ' H' ∧ Sat n D R' Γ' H' a w
theorem WC.cutM {x : Code} (M : Regs → Env → List Blk → Prop) (hx : WC P x (Exit.then (Mid M n D) Q) n D R Γ H) (hy : ∀ R' Γ' H', M R' Γ' H' → WE Q .normal n D R' Γ' H') : WC P x Q n D R Γ H :=
 ⟨fun a w hs => wp_mono (hx.go a w hs) fun e a w hq => by
  cases e with
  | normal =>
   obtain ⟨R', Γ', H', hM, hs'⟩ := hq
   exact (hy R' Γ' H' hM).go a w hs'
  | _ => exact hq⟩
theorem WE.mid {M : Regs → Env → List Blk → Prop} {R' : Regs} {Γ' : Env} {H' : List Blk} (hM : M R' Γ' H') (hR : subR R R') (hH : ∀ w, St Γ H w → St Γ' H' w) : WE (Exit.then (Mid M n D) Q) .normal n D R Γ H :=
 ⟨fun a w hs => ⟨R', Γ', H', hM, hs.defers, hs.size, fun i v e => hs.regs i v (subR_get hR i v e), hH w hs.st⟩⟩
end
end Go.Sl
namespace Go.Proofs.YtbgkbgoonjkghaaGreatDoor
open Go Go.Sl
set_option maxRecDepth 10000
set_option maxHeartbeats 4000000
def FVal (Γ : Env) : FV → Value → Prop
 | .u n, v => v = .iface 140 (.int .u64 (n : Int))
 | .i z, v => v = .iface 2 (.int .i64 z)
 | .b b, v => v = .iface 4 (.bool b)
 | .s t, v => v = .iface 9 (.string t)
 | .bs l, v => ∃ w, v = .iface 27 w ∧ Byt Γ w l
 | .o n, v => v = .iface 90 (.int .u32 (n : Int))
theorem FVal.mono {Γ Γ' : Env} (hle : Γ.le Γ') {f : FV} {v : Value} (h : FVal Γ f v) : FVal Γ' f v := by
 cases f with
 | bs l => obtain ⟨w, h1, h2⟩ := h; exact ⟨w, h1, h2.mono hle⟩
 | _ => exact h
def FC (Γ : Env) (vers : Int) (x : Itm) (cs : List Value) : Prop := ∃ t w, cs = [.int .u32 (x.attr : Int), .iface t w, .int .i64 (formClass x.form x.attr vers)] ∧ FVal Γ x.fv (.iface t w)
def FCs (Γ : Env) (vers : Int) : List Itm → List Value → Prop
 | [], cs => cs = []
 | x :: xs, cs => ∃ c1 c2, cs = c1 ++ c2 ∧ FC Γ vers x c1 ∧ FCs Γ vers xs c2
theorem FC.mono {Γ Γ' : Env} (hle : Γ.le Γ') {vers : Int} {x : Itm} {cs : List Value} (h : FC Γ vers x cs) : FC Γ' vers x cs := by
 obtain ⟨t, w, h1, h2⟩ := h; exact ⟨t, w, h1, h2.mono hle⟩
theorem FCs.mono {Γ Γ' : Env} (hle : Γ.le Γ') {vers : Int} : ∀ {xs : List Itm} {cs : List Value}, FCs Γ vers xs cs → FCs Γ' vers xs cs
 | [], _, h => h
 | _ :: _, _, ⟨c1, c2, h1, h2, h3⟩ => ⟨c1, c2, h1, h2.mono hle, FCs.mono hle h3⟩
theorem FC.length {Γ : Env} {vers : Int} {x : Itm} {cs : List Value} (h : FC Γ vers x cs) : cs.length = 3 := by
 obtain ⟨t, w, rfl, -⟩ := h; rfl
theorem FCs.length {Γ : Env} {vers : Int} : ∀ {xs : List Itm} {cs : List Value}, FCs Γ vers xs cs → cs.length = xs.length * 3
 | [], _, h => by cases h; rfl
 | _ :: xs, _, ⟨c1, c2, h1, h2, h3⟩ => by rw [h1, List.length_append, h2.length, FCs.length h3, List.length_cons]; omega
theorem FCs.snoc {Γ : Env} {vers : Int} {x : Itm} {c : List Value} (hc : FC Γ vers x c) : ∀ {xs : List Itm} {cs : List Value}, FCs Γ vers xs cs → FCs Γ vers (xs ++ [x]) (cs ++ c)
 | [], _, h => by cases h; exact ⟨c, [], by simp, hc, rfl⟩
 | _ :: _, _, ⟨c1, c2, h1, h2, h3⟩ => ⟨c1, c2 ++ c, by rw [h1, List.append_assoc], h2, FCs.snoc hc h3⟩
theorem FCs.get {Γ : Env} {vers : Int} : ∀ {xs : List Itm} {cs : List Value} {i : Nat} {x : Itm}, FCs Γ vers xs cs → xs[i]? = some x → ∃ p c q, cs = p ++ (c ++ q) ∧ p.length = i * 3 ∧ FC Γ vers x c
 | [], _, _, _, _, e => by simp at e
 | y :: xs, cs, 0, x, ⟨c1, c2, h1, h2, h3⟩, e => by
  injection e with e; subst e
  exact ⟨[], c1, c2, h1, rfl, h2⟩
 | y :: xs, cs, i + 1, x, ⟨c1, c2, h1, h2, h3⟩, e => by
  obtain ⟨p, c, q, g1, g2, g3⟩ := FCs.get h3 (i := i) (by simpa using e)
  exact ⟨c1 ++ p, c, q, by rw [h1, g1, List.append_assoc], by rw [List.length_append, h2.length, g2]; omega, g3⟩
theorem dec_forms {c : Ctx} {v : Int} {f : Nat} {e : List UInt8} {fv : FV} (h : Dec c v f e fv) : f ∈ formsK ∧ f ≠ 22 := by
 cases h <;> exact ⟨by decide, by decide⟩
structure EntR (Γ : Env) (pe : Nat) (off : Nat) (tag : Nat) (ch : Bool) (its : List Itm) (vers : Int) : Prop where
 off : Γ.cell pe 0 = some (.int .u32 (off : Int))
 tag : Γ.cell pe 1 = some (.int .u32 (tag : Int))
 ch : Γ.cell pe 2 = some (.bool ch)
 fld : ∃ pf cs T, Γ.cell pe 3 = some (.slice (some ⟨pf, 0, none⟩) its.length its.length) ∧ Γ.imm pf = some (cel cs T) ∧ FCs Γ vers its cs
theorem EntR.mono {Γ Γ' : Env} (hle : Γ.le Γ') {pe off tag : Nat} {ch : Bool} {its : List Itm} {vers : Int} (h : EntR Γ pe off tag ch its vers) : EntR Γ' pe off tag ch its vers := by
 obtain ⟨h1, h2, h3, pf, cs, T, h4, h5, h6⟩ := h
 exact ⟨hle.cell h1, hle.cell h2, hle.cell h3, pf, cs, T, hle.cell h4, hle.imm _ _ h5, h6.mono hle⟩
theorem fcells_get (vers : Int) : ∀ {l : List AbF} {i : Nat} {f : AbF}, l[i]? = some f → ∃ p q, fcells vers l = p ++ (fcell vers f ++ q) ∧ p.length = i * 4
 | [], _, _, e => by simp at e
 | y :: l, 0, f, e => by injection e with e; subst e; exact ⟨[], fcells vers l, rfl, rfl⟩
 | y :: l, i + 1, f, e => by
  obtain ⟨p, q, h1, h2⟩ := fcells_get vers (l := l) (i := i) (by simpa using e)
  exact ⟨fcell vers y ++ p, q, by rw [fcells, h1, List.append_assoc], by rw [List.length_append, h2]; simp [fcell]; omega⟩
theorem itexts_drop {l : List Itm} {i : Nat} {x : Itm} (h : l[i]? = some x) : itexts (l.drop i) = x.text ++ itexts (l.drop (i + 1)) := by
 have hlt := (List.getElem?_eq_some_iff.1 h).1
 rw [List.drop_eq_getElem_cons hlt]
 rw [List.getElem?_eq_getElem hlt] at h; injection h with h; rw [h]; rfl
end Go.Proofs.YtbgkbgoonjkghaaGreatDoor
