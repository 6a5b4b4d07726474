/- Numbers' texts: Fixed, Offset, zeroed. Numbers' texts: LEB128. The texts of attributes' values: blockText, attrText. Code, header. Abbreviation, nodeText. nodeText; append of zeros. ValueOf, entry. -/
import Derived.Test.YtdplhbmoidepgaaGreatDoorG2
import Derived.Laws.Bits128
namespace Go.Proofs.YtdplhbmoidepgaaGreatDoor
open Go Go.Sl
set_option maxRecDepth 10000
set_option maxHeartbeats 40000000

theorem bytesV_append (a b : List UInt8) : bytesV (a ++ b) = bytesV a ++ bytesV b := List.map_append
theorem Ow.shape {s : Nat} {v : Value} {n : Nat} {l : List Value} {Hs : List Blk} (h : Ow s v n l Hs) : ∃ a cap, v = .slice a n cap := by
  cases h with
  | nil => exact ⟨_, _, rfl⟩
  | row _ _ _ _ => exact ⟨_, _, rfl⟩
theorem fixL_succ : ∀ (i n : Nat), fixL n (i + 1) = fixL n i ++ [UInt8.ofNat (n / 256 ^ i % 256)]
  | 0, n => by simp [fixL]
  | i + 1, n => by
    show UInt8.ofNat (n % 256) :: fixL (n / 256) (i + 1) = UInt8.ofNat (n % 256) :: fixL (n / 256) i ++ _
    rw [fixL_succ i (n / 256), Nat.div_div_eq_div_mul, Nat.pow_succ, Nat.mul_comm 256]; rfl
theorem reps_succ (k : Nat) (z : Value) : reps (k + 1) [z] = reps k [z] ++ [z] := by
  induction k with
  | zero => rfl
  | succ k ih =>
    have h2 : reps (k + 1) [z] ++ [z] = [z] ++ (reps k [z] ++ [z]) := by rw [show reps (k + 1) [z] = [z] ++ reps k [z] from rfl, List.append_assoc]
    rw [h2, ← ih]; rfl
theorem fixed_ok {Γ : Env} {H : List Blk} {n s : Nat} {big : Bool} (hn : n < 18446744073709551616) (hs : s ≤ 8) :
   Spc Tryz.prog 46 #[.int .u64 (n : Int), .int .i64 (s : Int), .bool big] Γ H (fun v Γ' H' => Γ = Γ' ∧ ∃ Hs, Ow 1 v s (bytesV (fix n s big)) Hs ∧ H' = Hs ++ H) := by
  refine Spc.body3 Tryz.func46 rfl Tryz.ntmps46 rfl ?_
  refine gz_ ?_
  (refine WL.make tab_ok rfl rfl rfl rfl rfl rfl rfl rfl (by omega) (by omega) (by omega) rfl ?_; intro bm)
  refine gz_ ?_
  rw [show ((s : Nat) : Int).toNat = s from rfl]
  refine WC.loopE (fun m R' Γ' H' => ∃ i nn, R' = [(0, .int .u64 ((nn : Nat) : Int)), (1, .int .i64 (s : Int)), (2, .bool big), (7, .slice (some ⟨bm, 0, none⟩) s s), (8, .int .i64 ((i : Nat) : Int))] ∧ Γ = Γ' ∧
      H' = (bm, cel (if big then reps (s - i) [.int .u8 0] ++ bytesV (fixL n i).reverse else bytesV (fixL n i) ++ reps (s - i) [.int .u8 0]) 5) :: H ∧ m = s - i ∧ i ≤ s ∧ nn = n / 256 ^ i ∧ nn < 18446744073709551616)
    ⟨0, n, rfl, rfl, rfl, rfl, Nat.zero_le _, by simp, hn⟩ sr_ (by cases big <;> simp [fixL, bytesV]) ?_
  rintro m R' Γ' H' ⟨i, nn, rfl, rfl, rfl, rfl, hi, hnn, hnb⟩
  rcases Nat.lt_or_ge i s with hlt | hge
  case inr =>
    have ei : i = s := by omega
    subst ei
    refine gz_ ?_
    refine WC.condF rfl (decide_eq_false (by omega)) ?_
    refine gz_ ?_
    have e : (if big then reps (i - i) [.int .u8 0] ++ bytesV (fixL n i).reverse else bytesV (fixL n i) ++ reps (i - i) [.int .u8 0]) = bytesV (fix n i big) := by
      rw [Nat.sub_self]; cases big <;> simp [fix, reps]
    rw [e]
    refine end_1 rfl rfl (Env.le.rfl' _) ⟨rfl, [(bm, cel (bytesV (fix n i big)) 5)], Ow.lit (by simp [fix_length]), rfl⟩
  case inl =>
    have hwi : IntKind.i64.wrap ((i : Int) + 1) = (i : Int) + 1 := w_i64 (by omega) (by omega)
    have hb8 : IntKind.u8.wrap (nn : Int) = ((UInt8.ofNat (nn % 256)).toNat : Int) := by
      rw [u8_of (by omega)]; simp only [IntKind.wrap, IntKind.bits, IntKind.signed]; simp
    have hfs : fixL n (i + 1) = fixL n i ++ [UInt8.ofNat (nn % 256)] := by rw [fixL_succ, hnn]
    have hdv : nn / 256 = n / 256 ^ (i + 1) := by rw [hnn, Nat.div_div_eq_div_mul, Nat.pow_succ]
    have hshr : ((nn : Int).fdiv (2 ^ min (Int.toNat 8) IntKind.u64.bits)) = ((nn / 256 : Nat) : Int) := by
      rw [show ((2 : Int) ^ min (Int.toNat 8) IntKind.u64.bits) = ((256 : Nat) : Int) from by decide, Int.fdiv_eq_ediv_of_nonneg _ (by omega)]; rfl
    have hrp : reps (s - i) [Value.int .u8 0] = reps (s - (i + 1)) [.int .u8 0] ++ [.int .u8 0] := by
      rw [← reps_succ, show s - (i + 1) + 1 = s - i by omega]
    have hrp2 : reps (s - i) [Value.int .u8 0] = .int .u8 0 :: reps (s - (i + 1)) [.int .u8 0] := by
      rw [show s - i = (s - (i + 1)) + 1 by omega]; rfl
    refine gz_ ?_
    refine WC.condT rfl (by first | rfl | exact decide_eq_true (by omega) | (simp; (first | done | fail)) | (simp; omega)) ?_
    refine gz_ ?_
    cases big with
    | true =>
      simp only [if_true]
      refine gz_ ?_
      rw [show IntKind.i64.wrap (IntKind.i64.wrap ((s : Int) - 1) - (i : Int)) = ((s - 1 - i : Nat) : Int) from by rw [w_i64 (x := (s : Int) - 1) (by omega) (by omega), w_i64 (by omega) (by omega)]; omega, hrp, List.append_assoc]
      refine gz_ ?_
      have hrl : (reps (s - (i + 1)) [Value.int .u8 0]).length = s - (i + 1) := by rw [reps_length]; simp
      refine WL.stPre (k := 0) tab_ok rfl rfl rfl pk_ (by (repeat (first | apply Spl.nil | apply Spl.put | apply Spl.skip)); (first | done | fail)) (by omega) rfl rfl ?_
      rw [hb8]
      refine gz_ ?_
      rw [hshr]
      refine WE.again ⟨i + 1, nn / 256, rfl, rfl, rfl, rfl, hlt, hdv, by omega⟩ (by omega) ⟨rfl, rfl, rfl, rfl, congrArg (fun z => some (Value.int .i64 z)) hwi, trivial⟩ ?_
      rw [hfs, List.reverse_append]
      exact sm_
    | false =>
      simp only [Bool.false_eq_true, if_false]
      rw [hrp2]
      refine gz_ ?_
      have hrl : (bytesV (fixL n i)).length = i := by simp [fixL_length]
      refine WL.stPre (k := 0) tab_ok rfl rfl rfl pk_ (by (repeat (first | apply Spl.nil | apply Spl.put | apply Spl.skip)); (first | done | fail)) (by omega) rfl rfl ?_
      rw [hb8]
      refine gz_ ?_
      rw [hshr]
      refine WE.again ⟨i + 1, nn / 256, rfl, rfl, rfl, rfl, hlt, hdv, by omega⟩ (by omega) ⟨rfl, rfl, rfl, rfl, congrArg (fun z => some (Value.int .i64 z)) hwi, trivial⟩ ?_
      rw [hfs, bytesV_append, List.append_assoc]
      exact sm_
theorem offset_ok {Γ : Env} {H : List Blk} {n : Nat} {wide big : Bool} (hn : n < 9223372036854775808) :
   Spc Tryz.prog 77 #[.int .i64 (n : Int), .bool wide, .bool big] Γ H (fun v Γ' H' => Γ = Γ' ∧ ∃ Hs, Ow 1 v (offSz wide) (bytesV (fix n (offSz wide) big)) Hs ∧ H' = Hs ++ H) := by
  refine Spc.body3 Tryz.func77 rfl Tryz.ntmps77 rfl ?_
  have hw : IntKind.u64.wrap (n : Int) = (n : Int) := w_u64 (by omega) (by omega)
  cases wide with
  | true =>
    refine gz_ ?_
    rw [hw]
    refine WL.call rfl Tryz.call46 rfl rfl (by exact (fixed_ok (n := n) (s := 8) (big := big) (by omega) (by decide))) ?_
    rintro v _ _ - ⟨rfl, Hs, how, rfl⟩
    refine gz_ ?_
    exact end_1 rfl rfl (Env.le.rfl' _) ⟨rfl, Hs, how, rfl⟩
  | false =>
    refine gz_ ?_
    rw [hw]
    refine WL.call rfl Tryz.call46 rfl rfl (by exact (fixed_ok (n := n) (s := 4) (big := big) (by omega) (by decide))) ?_
    rintro v _ _ - ⟨rfl, Hs, how, rfl⟩
    refine gz_ ?_
    exact end_1 rfl rfl (Env.le.rfl' _) ⟨rfl, Hs, how, rfl⟩
theorem one_bytes {l : List UInt8} : ∀ x ∈ bytesV l, x.oneCell' = true := one_bytesV l
theorem lengthy_ok {Γ : Env} {H Hb F : List Blk} {vb : Value} {l : List UInt8} {wide big : Bool} (how : Ow 1 vb l.length (bytesV l) Hb) (hT : Tk H Hb F) (hl : l.length < 2147483648) :
   Spc Tryz.prog 47 #[vb, .bool wide, .bool big] Γ H (fun v Γ' H' => Γ = Γ' ∧ ∃ Hs, Ow 1 v (lenB wide l.length big ++ l).length (bytesV (lenB wide l.length big ++ l)) Hs ∧ H' = Hs ++ H) := by
  obtain ⟨ab, cb, rfl⟩ := Ow.shape how
  refine Spc.body3 Tryz.func47 rfl Tryz.ntmps47 rfl ?_
  refine gz_ ?_
  refine WL.call rfl Tryz.call77 rfl rfl (by exact (offset_ok (n := l.length) (wide := wide) (big := big) (by omega))) ?_
  rintro v _ _ - ⟨rfl, Hs, ho, rfl⟩
  refine gz_ ?_
  cases wide with
  | true =>
    refine gz_ ?_
    (refine WL.lit tab_ok rfl rfl rfl rfl rfl rfl rfl spi_ rfl ?_; intro bl)
    refine gz_ ?_
    refine WL.append tab_ok rfl rfl rfl rfl rfl rfl rfl rfl (Ow.lit (s := 1) (b := bl) (k := 4) (l := bytesV [255, 255, 255, 255]) (T := 5) rfl) (Tk.here (Hs := [(bl, _)])) (ho.src tab_ok rfl tk_ one_bytes) (by decide) (by decide) (fun v2 Hs2 how2 => ?_)
    refine gz_ ?_
    refine WL.append tab_ok rfl rfl rfl rfl rfl rfl rfl rfl how2 Tk.here (how.src tab_ok rfl (Tk.over (Tk.over hT)) one_bytes) (by simp [offSz]; omega) (by simp [offSz]; omega) (fun v3 Hs3 how3 => ?_)
    refine gz_ ?_
    refine WE.lose (Hs := Hs) (Tk.over Tk.here) ?_
    rw [← bytesV_append, ← bytesV_append] at how3
    refine end_1 rfl rfl (Env.le.rfl' _) ⟨rfl, Hs3, ?_, rfl⟩
    have e : (lenB true l.length big ++ l).length = 4 + offSz true + l.length := by rw [List.length_append, lenB_length]; rfl
    rw [e]; exact how3
  | false =>
    refine gz_ ?_
    refine WL.append tab_ok rfl rfl rfl rfl rfl rfl rfl rfl ho Tk.here (how.src tab_ok rfl (Tk.over hT) one_bytes) (by simp [offSz]; omega) (by simp [offSz]; omega) (fun v3 Hs3 how3 => ?_)
    refine gz_ ?_
    rw [← bytesV_append] at how3
    refine end_1 rfl rfl (Env.le.rfl' _) ⟨rfl, Hs3, ?_, rfl⟩
    have e : (lenB false l.length big ++ l).length = offSz false + l.length := by rw [List.length_append, lenB_length]; rfl
    rw [e]; exact how3

theorem zeroed_ok {Γ : Env} {H : List Blk} {s : ByteArray} (hs : s.size < 2147483648) :
   Spc Tryz.prog 101 #[.string s] Γ H (fun v Γ' H' => Γ = Γ' ∧ ∃ Hs, Ow 1 v (s.data.toList ++ [0]).length (bytesV (s.data.toList ++ [0])) Hs ∧ H' = Hs ++ H) := by
  refine Spc.body1 Tryz.func101 rfl Tryz.ntmps101 rfl ?_
  refine gz_ ?_
  refine WL.s2b tab_ok rfl rfl rfl rfl rfl (fun v Hs how => ?_)
  (refine WL.lit tab_ok rfl rfl rfl rfl rfl rfl rfl spi_ rfl ?_; intro bl)
  refine WL.append tab_ok rfl rfl rfl rfl rfl rfl rfl rfl how tk_ ((Ow.lit (s := 1) (b := bl) (k := 1) (l := bytesV [0]) (T := 5) rfl).src tab_ok rfl (Tk.here (Hs := [(bl, _)])) one_bytes) (by omega) (by omega) (fun v2 Hs2 how2 => ?_)
  refine gz_ ?_
  refine WE.drop (b := bl) pk_ ?_
  rw [← bytesV_append] at how2
  refine end_1 rfl rfl (Env.le.rfl' _) ⟨rfl, Hs2, ?_, rfl⟩
  have e : (s.data.toList ++ [0]).length = s.size + 1 := by rw [List.length_append, Array.length_toList]; rfl
  rw [e]
  exact how2

theorem u8_or128 (b : UInt8) : bits .or .u8 (b.toNat : Int) 128 = (((b ||| 128).toNat : Nat) : Int) := by
  have h : ∀ n : Fin 256, bits .or .u8 (n.val : Int) 128 = (((UInt8.ofNat n.val ||| 128).toNat : Nat) : Int) := by decide +kernel
  have := h ⟨b.toNat, b.toNat_lt⟩
  simpa using this
/-- Groups of seven bits, each but the last one with the bit that tells of another. -/
def carry : List UInt8 → List UInt8
  | [] => []
  | [x] => [x]
  | x :: y :: l => (x ||| 128) :: carry (y :: l)
theorem carry_length : ∀ l, (carry l).length = l.length
  | [] => rfl
  | [_] => rfl
  | _ :: y :: l => by simp [carry, carry_length (y :: l)]
theorem carry_at : ∀ (l : List UInt8) (i : Nat) (x : UInt8), i + 1 < l.length → l[i]? = some x → (carry l).take (i + 1) = (carry l).take i ++ [x ||| 128]
  | [], _, _, h, _ => by simp at h
  | [_], _, _, h, _ => by simp at h
  | x :: y :: l, 0, z, _, e => by injection e with e; subst e; rfl
  | x :: y :: l, i + 1, z, h, e => by
    have := carry_at (y :: l) i z (by simp at h ⊢; omega) (by simpa using e)
    simp only [carry, List.take_succ_cons, this, List.cons_append]
theorem carry_end : ∀ (l : List UInt8) (i : Nat), l.length ≤ i + 1 → (carry l).take i ++ l.drop i = carry l
  | [], i, _ => by simp [carry]
  | [x], 0, _ => rfl
  | [x], i + 1, _ => by simp [carry]
  | x :: y :: l, 0, h => by simp at h
  | x :: y :: l, i + 1, h => by
    have := carry_end (y :: l) i (by simp at h ⊢; omega)
    simp only [carry, List.take_succ_cons, List.drop_succ_cons, List.cons_append, this]
theorem carried_ok {Γ : Env} {H Hs F : List Blk} {v : Value} {l : List UInt8} (how : Ow 1 v l.length (bytesV l) Hs) (hT : Tk H Hs F) (hl : l.length < 2147483648) (h0 : 0 < l.length) :
   Spc Tryz.prog 78 #[v] Γ H (fun w Γ' H' => Γ = Γ' ∧ w = v ∧ ∃ Hs2, Ow 1 v l.length (bytesV (carry l)) Hs2 ∧ H' = Hs2 ++ F) := by
  generalize hn : l.length = n at how
  generalize hc : bytesV l = cs at how
  refine Spc.perm ?_ hT.perm
  cases how with
  | nil => omega
  | @row b cap _ _ sp T fz h1 h2 h3 hz =>
    subst hc
    refine Spc.body1 Tryz.func78 rfl Tryz.ntmps78 rfl ?_
    refine gz_ ?_
    have hlen : ∀ i, i ≤ n → (bytesV ((carry l).take i ++ l.drop i) ++ sp).length = (bytesV l ++ sp).length := fun i hi => by
      simp [carry_length]; omega
    refine WC.loopE (fun m R' Γ' H' => ∃ i, R' = [(0, .slice (some ⟨b, 0, none⟩) n cap), (3, .int .i64 ((i : Nat) : Int))] ∧ Γ = Γ' ∧
        H' = (b, celF (bytesV ((carry l).take i ++ l.drop i) ++ sp) T fz) :: F ∧ m = n - i ∧ i < n)
      ⟨0, rfl, rfl, by simp, rfl, by omega⟩ sr_ (fun _ h => h) ?_
    rintro m R' Γ' H' ⟨i, rfl, rfl, rfl, rfl, hi⟩
    have hwi : IntKind.i64.wrap ((i : Int) + 1) = (i : Int) + 1 := w_i64 (by omega) (by omega)
    refine gz_ ?_
    rw [hwi]
    rcases Nat.lt_or_ge (i + 1) n with hlt | hge
    case inr =>
      refine WC.condF rfl (decide_eq_false (by omega)) ?_
      refine gz_ ?_
      rw [carry_end l i (by omega)]
      refine end_1 rfl rfl (Env.le.rfl' _) ⟨rfl, rfl, [(b, celF (bytesV (carry l) ++ sp) T fz)], ?_, rfl⟩
      have e : (bytesV (carry l)).length = n * 1 := by simp [carry_length, hn]
      refine Ow.row h1 e (by simp [carry_length, hn] at h3 ⊢; omega) ?_
      have : (bytesV (carry l) ++ sp).length = (bytesV l ++ sp).length := by simp [carry_length]
      rw [this]; exact hz
    case inl =>
      obtain ⟨x, hx⟩ : ∃ x, l[i]? = some x := ⟨_, List.getElem?_eq_getElem (by omega)⟩
      have hdr : l.drop i = x :: l.drop (i + 1) := by
        rw [List.drop_eq_getElem_cons (by omega)]
        rw [List.getElem?_eq_getElem (by omega)] at hx; injection hx with hx; rw [hx]
      refine WC.condT rfl (decide_eq_true (by omega)) ?_
      refine gz_ ?_
      have hpl : (bytesV ((carry l).take i)).length = i := by simp [carry_length]; omega
      have hor : bits .or .u8 (x.toNat : Int) 128 = (((x ||| 128).toNat : Nat) : Int) := by
        have := u8_or128 x; exact this
      have hz2 := hlen i (by omega)
      rw [hdr, bytesV_append, List.append_assoc] at hz2
      rw [hdr, bytesV_append, List.append_assoc]
      refine WL.ldPre (k := 0) tab_ok rfl rfl rfl pk_ rfl (by omega) rfl ?_
      refine gz_ ?_
      rw [hor]
      refine WL.stN tab_ok rfl rfl rfl pk_ (by rw [hz2]; exact hz) (by rw [hz2, show (vcells (Value.int .u8 (((x ||| 128).toNat : Nat) : Int))).length = 1 from rfl]; simp; omega) (setAll_pre [u8v (x ||| 128)] (bytesV ((carry l).take i)) _ _ 0 (by omega)) rfl rfl ?_
      refine gz_ ?_
      refine WE.again ⟨i + 1, rfl, rfl, rfl, rfl, by omega⟩ (by omega) ⟨rfl, congrArg (fun z => some (Value.int .i64 z)) hwi, trivial⟩ ?_
      rw [carry_at l i x (by omega) hx, List.append_assoc, bytesV_append, List.append_assoc]
      exact (fun _ h => h)
end Go.Proofs.YtdplhbmoidepgaaGreatDoor
namespace Go.Proofs.YtdplhbmoidepgaaGreatDoor
open Go Go.Sl
set_option maxRecDepth 10000
set_option maxHeartbeats 40000000

/-- A number's groups of seven bits. -/
def digs (n : Nat) : List UInt8 := if h : n < 128 then [UInt8.ofNat n] else UInt8.ofNat (n % 128) :: digs (n / 128)
termination_by n
decreasing_by omega
theorem digs_step (n : Nat) : digs n = UInt8.ofNat (n % 128) :: (if n / 128 = 0 then [] else digs (n / 128)) := by
  by_cases h : n < 128
  · rw [digs, dif_pos h, if_pos (by omega), show n % 128 = n by omega]
  · rw [digs, dif_neg h, if_neg (by omega)]
theorem or128 {k : Nat} (h : k < 128) : UInt8.ofNat k ||| 128 = UInt8.ofNat (k + 128) := by
  have h2 : ∀ n : Fin 128, UInt8.ofNat n.val ||| 128 = UInt8.ofNat (n.val + 128) := by decide +kernel
  exact h2 ⟨k, h⟩
theorem carry_digs (n : Nat) : carry (digs n) = ulebL n := by
  induction n using Nat.strongRecOn with
  | _ n ih =>
    by_cases h : n < 128
    · rw [digs, dif_pos h, ulebL_small h]; rfl
    · rw [digs, dif_neg h, ulebL_big h, ← ih (n / 128) (by omega), ← or128 (by omega)]
      have : digs (n / 128) ≠ [] := by rw [digs_step]; simp
      cases hd : digs (n / 128) with
      | nil => exact absurd hd this
      | cons y l => rfl
theorem unsigned_ok {Γ : Env} {H : List Blk} {n : Nat} (hn : n < 18446744073709551616) :
   Spc Tryz.prog 50 #[.int .u64 (n : Int), .int .i64 0] Γ H (fun v Γ' H' => Γ = Γ' ∧ ∃ Hs, Ow 1 v (ulebL n).length (bytesV (ulebL n)) Hs ∧ H' = Hs ++ H) := by
  have hd10 : (digs n).length ≤ 10 := by rw [← carry_length, carry_digs]; exact ulebL_len10 hn
  refine Spc.body2 Tryz.func50 rfl Tryz.ntmps50 rfl ?_
  have hrem : ∀ m : Nat, IntKind.u8.wrap ((m : Int).tmod 128) = ((UInt8.ofNat (m % 128)).toNat : Int) := fun m => by
    rw [u8_of (by omega), Int.tmod_eq_emod_of_nonneg (by omega)]
    rw [w_u8 (by omega) (by omega)]; rfl
  have hquo : ∀ m : Nat, m < 18446744073709551616 → IntKind.u64.wrap ((m : Int).tdiv 128) = ((m / 128 : Nat) : Int) := fun m hm => by
    rw [Int.tdiv_eq_ediv_of_nonneg (by omega), w_u64 (by omega) (by omega)]; rfl
  refine gz_ ?_
  rw [hrem]
  (refine WL.lit tab_ok rfl rfl rfl rfl rfl rfl rfl spi_ rfl ?_; intro b0)
  refine gz_ ?_
  rw [hquo n hn]
  refine WC.loopE (fun m R' Γ' H' => ∃ nn v out Hs, R' = [(0, .int .u64 ((nn : Nat) : Int)), (1, .int .i64 0), (5, v)] ∧ Γ = Γ' ∧ H' = Hs ++ H ∧ nn = m ∧ nn < 18446744073709551616 ∧ Ow 1 v (out : List UInt8).length (bytesV out) Hs ∧ 0 < out.length ∧ digs n = out ++ (if nn = 0 then [] else digs nn))
    ⟨n / 128, _, [UInt8.ofNat (n % 128)], [(b0, _)], rfl, rfl, rfl, rfl, by omega, Ow.lit (s := 1) (k := 1) (l := bytesV [UInt8.ofNat (n % 128)]) (T := 5) rfl, by simp, by rw [digs_step]; rfl⟩ sr_ sm_ ?_
  rintro m R' Γ' H' ⟨nn, v, out, Hs, rfl, rfl, rfl, hm, hnn, how, ho0, hdg⟩
  subst m
  have hol : out.length ≤ 10 := by have := congrArg List.length hdg; rw [List.length_append] at this; omega
  rcases Nat.eq_zero_or_pos nn with h0 | hpos
  case inl =>
    subst h0
    refine gz_ ?_
    rw [if_pos rfl, List.append_nil] at hdg
    refine WC.loop2 ?_
    refine gz_ ?_
    refine WL.call rfl Tryz.call78 rfl rfl (by exact (carried_ok how Tk.here (by omega) ho0)) ?_
    rintro _ _ _ - ⟨rfl, rfl, Hs2, how2, rfl⟩
    refine gz_ ?_
    have e : (ulebL n).length = out.length := by rw [← carry_digs, carry_length, hdg]
    refine end_1 rfl rfl (Env.le.rfl' _) ⟨rfl, Hs2, ?_, rfl⟩
    rw [e, ← carry_digs, hdg]
    exact how2
  case inr =>
    rw [if_neg (by omega), digs_step nn] at hdg
    refine gz_ ?_
    refine WC.condT rfl (decide_eq_true (by omega)) ?_
    refine gz_ ?_
    rw [hrem]
    (refine WL.lit tab_ok rfl rfl rfl rfl rfl rfl rfl spi_ rfl ?_; intro bl)
    refine WL.append tab_ok rfl rfl rfl rfl rfl rfl rfl rfl how tk_ ((Ow.lit (s := 1) (b := bl) (k := 1) (l := bytesV [UInt8.ofNat (nn % 128)]) (T := 5) rfl).src tab_ok rfl (Tk.here (Hs := [(bl, _)])) one_bytes) (by omega) (by omega) (fun v2 Hs2 how2 => ?_)
    refine gz_ ?_
    rw [hquo nn hnn]
    rw [← bytesV_append] at how2
    exact WE.again ⟨nn / 128, v2, out ++ [UInt8.ofNat (nn % 128)], Hs2, rfl, rfl, rfl, rfl, by omega, by rw [List.length_append]; exact how2, by simp, by rw [hdg, List.append_assoc]; rfl⟩ (by omega) sr_ sn_

theorem ow_row {s : Nat} {v : Value} {n : Nat} {l : List Value} {Hs : List Blk} (h : Ow s v n l Hs) (h0 : 0 < n) : ∃ b cap sp T fz, v = .slice (some ⟨b, 0, none⟩) n cap ∧ Hs = [(b, celF (l ++ sp) T fz)] ∧ n ≤ cap := by
  cases h with
  | nil => omega
  | row h1 _ _ _ => exact ⟨_, _, _, _, _, rfl, rfl, h1⟩
/-- Whether a signed number's last group is told. -/
def lastG (z : Int) : Prop := (z / 128 = 0 ∧ z % 128 < 64) ∨ (z / 128 = -1 ∧ 64 ≤ z % 128)
instance (z : Int) : Decidable (lastG z) := by unfold lastG; infer_instance
abbrev grp (z : Int) : UInt8 := UInt8.ofNat (z % 128).toNat
def sdigs (z : Int) : List UInt8 := if h : lastG z then [grp z] else grp z :: sdigs (z / 128)
termination_by z.natAbs
decreasing_by unfold lastG at h; omega
theorem sdigs_step (z : Int) : sdigs z = grp z :: (if lastG z then [] else sdigs (z / 128)) := by
  by_cases h : lastG z
  · rw [sdigs, dif_pos h, if_pos h]
  · rw [sdigs, dif_neg h, if_neg h]
theorem carry_sdigs (z : Int) : carry (sdigs z) = slebL z := by
  induction hm : z.natAbs using Nat.strongRecOn generalizing z with
  | _ m ih =>
    by_cases h : lastG z
    · rw [sdigs, dif_pos h, slebL_last h]; rfl
    · rw [sdigs, dif_neg h, slebL_more h, ← ih (z / 128).natAbs (by unfold lastG at h; omega) (z / 128) rfl, ← or128 (by omega)]
      have : sdigs (z / 128) ≠ [] := by rw [sdigs_step]; simp
      cases hd : sdigs (z / 128) with
      | nil => exact absurd hd this
      | cons y l => rfl
theorem signed_ok {Γ : Env} {H : List Blk} {z : Int} (h0 : -9223372036854775808 ≤ z) (h1 : z < 9223372036854775808) :
   Spc Tryz.prog 79 #[.int .i64 z, .int .i64 0] Γ H (fun v Γ' H' => Γ = Γ' ∧ ∃ Hs, Ow 1 v (slebL z).length (bytesV (slebL z)) Hs ∧ H' = Hs ++ H) := by
  have hd10 : (sdigs z).length ≤ 10 := by rw [← carry_length, carry_sdigs]; exact slebL_len10 h0 h1
  have hand : ∀ m : Int, IntKind.u8.wrap (bits .and .i64 m 127) = ((grp m).toNat : Int) := fun m => by
    rw [i64_and127, u8_of (by omega), w_u8 (by omega) (by omega)]; omega
  have hshr : ∀ m : Int, m.fdiv (2 ^ min (Int.toNat 7) IntKind.i64.bits) = m / 128 := fun m => by
    rw [show ((2 : Int) ^ min (Int.toNat 7) IntKind.i64.bits) = 128 from by decide, Int.fdiv_eq_ediv_of_nonneg _ (by omega)]
  have hgn : ∀ m : Int, ((grp m).toNat : Int) = m % 128 := fun m => by rw [u8_of (by omega)]; omega
  refine Spc.body2 Tryz.func79 rfl Tryz.ntmps79 rfl ?_
  refine gz_ ?_
  rw [hand]
  (refine WL.lit tab_ok rfl rfl rfl rfl rfl rfl rfl spi_ rfl ?_; intro b0)
  refine gz_ ?_
  rw [hshr]
  refine WC.loopE (fun m R' Γ' H' => ∃ zz v out Hs, R' = [(0, .int .i64 (zz / 128)), (1, .int .i64 0), (5, v), (6, .int .u8 ((grp zz).toNat : Int))] ∧ Γ = Γ' ∧ H' = Hs ++ H ∧ m = zz.natAbs ∧ -9223372036854775808 ≤ zz ∧ zz < 9223372036854775808 ∧ Ow 1 v (out : List UInt8).length (bytesV out) Hs ∧ 0 < out.length ∧ sdigs z = out ++ (if lastG zz then [] else sdigs (zz / 128)))
    ⟨z, _, [grp z], [(b0, _)], rfl, rfl, rfl, rfl, h0, h1, Ow.lit (s := 1) (k := 1) (l := bytesV [grp z]) (T := 5) rfl, by simp, by rw [sdigs_step]; rfl⟩ sr_ sm_ ?_
  rintro m R' Γ' H' ⟨zz, v, out, Hs, rfl, rfl, rfl, rfl, hz0, hz1, how, ho0, hdg⟩
  have hol : out.length ≤ 10 := by have := congrArg List.length hdg; rw [List.length_append] at this; omega
  have hg := hgn zz
  refine WC.seq ?_
  refine WC.cutM (fun R' Γ' H' => R' = [(0, .int .i64 (zz / 128)), (1, .int .i64 0), (5, v)] ∧ Γ = Γ' ∧ H' = Hs ++ H ∧ ¬ lastG zz) ?_ ?_
  · refine gz_ ?_
    by_cases hA : zz / 128 = 0
    · rw [hA]
      refine gz_ ?_
      rw [hg]
      by_cases hq : 64 ≤ zz % 128
      · rw [show decide ((64 : Int) ≤ zz % 128) = true from decide_eq_true hq]
        refine gz_ ?_
        exact WE.mid ⟨rfl, rfl, rfl, by unfold lastG; omega⟩ sr_ (fun _ h => h)
      · have hlast : lastG zz := .inl ⟨hA, by omega⟩
        rw [show decide ((64 : Int) ≤ zz % 128) = false from decide_eq_false hq]
        refine gz_ ?_
        refine WC.loop2 ?_
        refine gz_ ?_
        refine WL.call rfl Tryz.call78 rfl rfl (by exact (carried_ok how Tk.here (by omega) ho0)) ?_
        rintro _ _ _ - ⟨rfl, rfl, Hs2, how2, rfl⟩
        refine gz_ ?_
        rw [if_pos hlast, List.append_nil] at hdg
        have e : (slebL z).length = out.length := by rw [← carry_sdigs, carry_length, hdg]
        refine end_1 rfl rfl (Env.le.rfl' _) ⟨rfl, Hs2, ?_, rfl⟩
        rw [e, ← carry_sdigs, hdg]
        exact how2
    · rw [show (zz / 128 != 0) = true from bne_iff_ne.2 hA]
      refine gz_ ?_
      by_cases hB : zz / 128 = -1
      · rw [hB]
        refine gz_ ?_
        rw [hg]
        by_cases hq : 64 ≤ zz % 128
        · have hlast : lastG zz := .inr ⟨hB, hq⟩
          rw [show decide ((64 : Int) ≤ zz % 128) = true from decide_eq_true hq]
          refine gz_ ?_
          refine WC.loop2 ?_
          refine gz_ ?_
          refine WL.call rfl Tryz.call78 rfl rfl (by exact (carried_ok how Tk.here (by omega) ho0)) ?_
          rintro _ _ _ - ⟨rfl, rfl, Hs2, how2, rfl⟩
          refine gz_ ?_
          rw [if_pos hlast, List.append_nil] at hdg
          have e : (slebL z).length = out.length := by rw [← carry_sdigs, carry_length, hdg]
          refine end_1 rfl rfl (Env.le.rfl' _) ⟨rfl, Hs2, ?_, rfl⟩
          rw [e, ← carry_sdigs, hdg]
          exact how2
        · rw [show decide ((64 : Int) ≤ zz % 128) = false from decide_eq_false hq]
          refine gz_ ?_
          exact WE.mid ⟨rfl, rfl, rfl, by unfold lastG; omega⟩ sr_ (fun _ h => h)
      · rw [show (zz / 128 != -1) = true from bne_iff_ne.2 hB]
        refine gz_ ?_
        exact WE.mid ⟨rfl, rfl, rfl, by unfold lastG; omega⟩ sr_ (fun _ h => h)
  rintro R' Γ' H' ⟨rfl, rfl, rfl, hnl⟩
  rw [if_neg hnl, sdigs_step (zz / 128)] at hdg
  refine gz_ ?_
  rw [hand]
  (refine WL.lit tab_ok rfl rfl rfl rfl rfl rfl rfl spi_ rfl ?_; intro bl)
  refine WL.append tab_ok rfl rfl rfl rfl rfl rfl rfl rfl how tk_ ((Ow.lit (s := 1) (b := bl) (k := 1) (l := bytesV [grp (zz / 128)]) (T := 5) rfl).src tab_ok rfl (Tk.here (Hs := [(bl, _)])) one_bytes) (by omega) (by omega) (fun v2 Hs2 how2 => ?_)
  refine gz_ ?_
  rw [hshr]
  obtain ⟨b2, cap2, sp2, T2, fz2, rfl, rfl, hcap2⟩ := ow_row how2 (by omega)
  have hwl : IntKind.i64.wrap (((out.length + 1 : Nat) : Int) - 1) = ((out.length : Nat) : Int) := by rw [w_i64 (by omega) (by omega)]; omega
  refine gz_ ?_
  rw [hwl]
  refine WL.ldR (v := u8v (grp (zz / 128))) tab_ok rfl rfl rfl (.inr ⟨_, _, _, _, Pick.here, by
    have e : 0 + (((out.length : Nat) : Int)).toNat * 1 = out.length := by omega
    rw [e, List.append_assoc, List.getElem?_toArray, List.getElem?_append_right (by simp)]
    simp⟩) rfl ?_
  refine gz_ ?_
  rw [← bytesV_append] at how2 ⊢
  exact WE.again ⟨zz / 128, _, out ++ [grp (zz / 128)], _, rfl, rfl, rfl, rfl, by omega, by omega, by rw [List.length_append]; exact how2, by simp, by rw [hdg, List.append_assoc]; rfl⟩ (by unfold lastG at hnl; omega) sr_ sm_
end Go.Proofs.YtdplhbmoidepgaaGreatDoor
namespace Go.Sl
open Go
theorem WE.re {Q : Post} {e : Exit} {n : Nat} {D : List Deferred} {R : Regs} {Γ : Env} {H H2 : List Blk} (hH : ∀ w, St Γ H w → St Γ H2 w) (k : WE Q e n D R Γ H2) : WE Q e n D R Γ H := ⟨fun a w hs => k.go a w (hs.world (hH w hs.st))⟩
end Go.Sl
namespace Go.Proofs.YtdplhbmoidepgaaGreatDoor
open Go Go.Sl
set_option maxRecDepth 10000
set_option maxHeartbeats 40000000

def blkE (f : Int) (b : List UInt8) (big : Bool) : List UInt8 :=
  if f = 10 then fix b.length 1 big ++ b else if f = 3 then fix b.length 2 big ++ b else if f = 4 then fix b.length 4 big ++ b else ulebL b.length ++ b
theorem blockText_ok {Γ : Env} {H : List Blk} {a : Att} {c : List Value} {big : Bool} (h : AttC Γ a c) (hb : a.b.length ≤ 4096) :
   Spc Tryz.prog 100 #[.agg c.toArray, .bool big] Γ H (fun v Γ' H' => Γ = Γ' ∧ ∃ Hs, Ow 1 v (blkE a.form a.b big).length (bytesV (blkE a.form a.b big)) Hs ∧ H' = Hs ++ H) := by
  obtain ⟨vb, rfl, hB, hn⟩ := h
  have hB2 := hB
  obtain ⟨ab, cb, rfl, -, -⟩ := hB
  have hw : IntKind.u64.wrap (a.b.length : Int) = (a.b.length : Int) := w_u64 (by omega) (by omega)
  have hul : (ulebL a.b.length).length ≤ 10 := ulebL_len10 (by omega)
  refine Spc.body2 Tryz.func100 rfl Tryz.ntmps100 rfl ?_
  refine WC.seq ?_
  refine WC.region ?_
  (refine WL.box rfl spi_ rfl ?_; intro bx)
  refine gz_ ?_
  rw [hw]
  by_cases k10 : a.form = 10
  · refine WC.condT rfl (beq_iff_eq.2 k10) ?_
    refine gz_ ?_
    refine WC.draw 7 (.take 0 (.take 1 (.take 3 (.take 4 (.one 2 (.one 5 (.one 6 .done))))))) ((bx, _) :: []) mixed (by (repeat (first | exact trivial | refine ⟨⟨_, pk_⟩, ?_⟩ | exact subH_self _ | apply subH_cons)); (first | done | fail)) (by decide +kernel) ?_
    refine dz_ ?_
    refine WL.call rfl Tryz.call46 rfl rfl (by exact (fixed_ok (n := a.b.length) (s := 1) (big := big) (by omega) (by decide))) ?_
    rintro v _ _ - ⟨rfl, Hs, how, rfl⟩
    refine dz_ ?_
    refine WL.append tab_ok rfl rfl rfl rfl rfl rfl rfl rfl how Tk.here (hB2.src tab_ok rfl) (by omega) (by omega) (fun v2 Hs2 how2 => ?_)
    refine dz_ ?_
    refine gz_ ?_
    refine WE.drop (b := bx) pk_ ?_
    rw [← bytesV_append] at how2
    have e : blkE a.form a.b big = fix a.b.length 1 big ++ a.b := by simp [blkE, k10]
    refine end_1 rfl rfl (Env.le.rfl' _) ⟨rfl, Hs2, ?_, rfl⟩
    rw [e, List.length_append, fix_length]
    exact how2
  refine WC.condF rfl (beq_eq_false_iff_ne.2 k10) ?_
  refine gz_ ?_
  by_cases k3 : a.form = 3
  · refine WC.condT rfl (beq_iff_eq.2 k3) ?_
    refine gz_ ?_
    refine WC.draw 7 (.take 0 (.take 1 (.take 3 (.take 4 (.one 2 (.one 5 (.one 6 .done))))))) ((bx, _) :: []) mixed (by (repeat (first | exact trivial | refine ⟨⟨_, pk_⟩, ?_⟩ | exact subH_self _ | apply subH_cons)); (first | done | fail)) (by decide +kernel) ?_
    refine dz_ ?_
    refine WL.call rfl Tryz.call46 rfl rfl (by exact (fixed_ok (n := a.b.length) (s := 2) (big := big) (by omega) (by decide))) ?_
    rintro v _ _ - ⟨rfl, Hs, how, rfl⟩
    refine dz_ ?_
    refine WL.append tab_ok rfl rfl rfl rfl rfl rfl rfl rfl how Tk.here (hB2.src tab_ok rfl) (by omega) (by omega) (fun v2 Hs2 how2 => ?_)
    refine dz_ ?_
    refine gz_ ?_
    refine WE.drop (b := bx) pk_ ?_
    rw [← bytesV_append] at how2
    have e : blkE a.form a.b big = fix a.b.length 2 big ++ a.b := by simp [blkE, k3]
    refine end_1 rfl rfl (Env.le.rfl' _) ⟨rfl, Hs2, ?_, rfl⟩
    rw [e, List.length_append, fix_length]
    exact how2
  refine WC.condF rfl (beq_eq_false_iff_ne.2 k3) ?_
  refine gz_ ?_
  by_cases k4 : a.form = 4
  · refine WC.condT rfl (beq_iff_eq.2 k4) ?_
    refine gz_ ?_
    refine WC.draw 7 (.take 0 (.take 1 (.take 3 (.take 4 (.one 2 (.one 5 (.one 6 .done))))))) ((bx, _) :: []) mixed (by (repeat (first | exact trivial | refine ⟨⟨_, pk_⟩, ?_⟩ | exact subH_self _ | apply subH_cons)); (first | done | fail)) (by decide +kernel) ?_
    refine dz_ ?_
    refine WL.call rfl Tryz.call46 rfl rfl (by exact (fixed_ok (n := a.b.length) (s := 4) (big := big) (by omega) (by decide))) ?_
    rintro v _ _ - ⟨rfl, Hs, how, rfl⟩
    refine dz_ ?_
    refine WL.append tab_ok rfl rfl rfl rfl rfl rfl rfl rfl how Tk.here (hB2.src tab_ok rfl) (by omega) (by omega) (fun v2 Hs2 how2 => ?_)
    refine dz_ ?_
    refine gz_ ?_
    refine WE.drop (b := bx) pk_ ?_
    rw [← bytesV_append] at how2
    have e : blkE a.form a.b big = fix a.b.length 4 big ++ a.b := by simp [blkE, k4]
    refine end_1 rfl rfl (Env.le.rfl' _) ⟨rfl, Hs2, ?_, rfl⟩
    rw [e, List.length_append, fix_length]
    exact how2
  refine WC.condF rfl (beq_eq_false_iff_ne.2 k4) ?_
  refine gz_ ?_
  refine WC.draw 6 (.take 0 (.take 2 (.take 3 (.one 1 (.one 4 (.one 5 .done)))))) ((bx, _) :: []) mixed (by (repeat (first | exact trivial | refine ⟨⟨_, pk_⟩, ?_⟩ | exact subH_self _ | apply subH_cons)); (first | done | fail)) (by decide +kernel) ?_
  refine dz_ ?_
  refine WL.call rfl Tryz.call50 rfl rfl (by exact (unsigned_ok (n := a.b.length) (by omega))) ?_
  rintro v _ _ - ⟨rfl, Hs, how, rfl⟩
  refine dz_ ?_
  refine WL.append tab_ok rfl rfl rfl rfl rfl rfl rfl rfl how Tk.here (hB2.src tab_ok rfl) (by omega) (by omega) (fun v2 Hs2 how2 => ?_)
  refine dz_ ?_
  refine gz_ ?_
  refine WE.drop (b := bx) pk_ ?_
  rw [← bytesV_append] at how2
  have e : blkE a.form a.b big = ulebL a.b.length ++ a.b := by simp [blkE, k10, k3, k4]
  refine end_1 rfl rfl (Env.le.rfl' _) ⟨rfl, Hs2, ?_, rfl⟩
  rw [e, List.length_append]
  exact how2

theorem attE_blk {v : Int} {w : Bool} {z : Int} {big : Bool} {so lo : Nat} {a : Att} (hs : szOf v w z a.form = 0) (h : a.form = 3 ∨ a.form = 4 ∨ a.form = 9 ∨ a.form = 10 ∨ a.form = 24) : attE v w z big so lo a = blkE a.form a.b big := by
  unfold attE blkE
  rw [hs]
  rcases h with h | h | h | h | h <;> simp [h]
theorem attrText_ok {Γ : Env} {H F : List Blk} {vers size : Int} {w : Bool} {vn : Value} {a : Att} {c : List Value} {big : Bool} {pt : Nat} {vs vl : Value} {ss ll : List UInt8} {Ss Sl : List Blk}
   (hz : size = 4 ∨ size = 8) (h : AttC Γ a c) (hb : a.b.length ≤ 4096) (hsz : a.s.size ≤ 4096)
   (hp : H.Perm ((pt, cel [vs, vl] 82) :: (Ss ++ (Sl ++ F)))) (hvs : Ow 1 vs ss.length (bytesV ss) Ss) (hvl : Ow 1 vl ll.length (bytesV ll) Sl) (hss : ss.length < 2147483648) (hll : ll.length < 2147483648) :
   Spc Tryz.prog 80 #[.agg #[.int .i64 vers, .bool w, .int .i64 size, vn], .agg c.toArray, .bool big, .pointer (some ⟨pt, 0, none⟩)] Γ H (fun v Γ' H' => Γ = Γ' ∧ ∃ Hs vs2 vl2 Ss2 Sl2, Ow 1 v (attE vers w size big ss.length ll.length a).length (bytesV (attE vers w size big ss.length ll.length a)) Hs ∧
     Ow 1 vs2 (ss ++ attS a).length (bytesV (ss ++ attS a)) Ss2 ∧ Ow 1 vl2 (ll ++ attL a).length (bytesV (ll ++ attL a)) Sl2 ∧ H' = Hs ++ ((pt, cel [vs2, vl2] 82) :: (Ss2 ++ (Sl2 ++ F)))) := by
  have hA := h
  obtain ⟨vb, rfl, hB, hn⟩ := h
  obtain ⟨ab, cb, rfl, -, -⟩ := hB
  obtain ⟨aS, cS, rfl⟩ := Ow.shape hvs
  obtain ⟨aL, cL, rfl⟩ := Ow.shape hvl
  refine Spc.perm ?_ hp
  refine Spc.body4 Tryz.func80 rfl Tryz.ntmps80 rfl ?_
  refine WC.seq ?_
  refine WC.region ?_
  (refine WL.box rfl spi_ rfl ?_; intro bu)
  (refine WL.box rfl spi_ rfl ?_; intro ba)
  refine gz_ ?_
  refine WL.call rfl Tryz.call75 rfl rfl (by exact (sizeOf_ok vers size w vn a.form (by omega))) ?_
  rintro _ _ _ - ⟨rfl, rfl, rfl⟩
  refine gz_ ?_
  by_cases hS : 0 < szOf vers w size a.form
  · have hsc := szOf_cases (v := vers) (f := a.form) (w := w) hz
    refine WC.condT rfl (decide_eq_true (by omega)) ?_
    refine gz_ ?_
    refine WL.call rfl Tryz.call46 rfl rfl (by exact (fixed_ok (n := a.n) (s := szOf vers w size a.form) (big := big) hn (by omega))) ?_
    rintro v _ _ - ⟨rfl, Hs, how, rfl⟩
    refine gz_ ?_
    have e : attE vers w size big ss.length ll.length a = fix a.n (szOf vers w size a.form) big := by unfold attE; rw [if_pos hS]
    have e14 : a.form ≠ 14 := fun h => by rw [h] at hS; simp [szOf] at hS
    have e31 : a.form ≠ 31 := fun h => by rw [h] at hS; simp [szOf] at hS
    have eS : attS a = [] := if_neg e14
    have eL : attL a = [] := if_neg e31
    refine WE.drop (b := ba) pk_ ?_
    refine WE.drop (b := bu) pk_ ?_
    rw [e, eS, eL, fix_length, List.append_nil, List.append_nil]
    exact end_1 rfl rfl (Env.le.rfl' _) ⟨rfl, Hs, _, _, Ss, Sl, how, hvs, hvl, rfl⟩
  have hS0 : szOf vers w size a.form = 0 := by omega
  refine WC.condF rfl (decide_eq_false (by omega)) ?_
  refine gz_ ?_
  by_cases k3 : a.form = 3
  · rw [show (a.form == 3) = true from beq_iff_eq.2 k3]
    refine gz_ ?_
    refine WL.call rfl Tryz.call100 rfl rfl (by exact (blockText_ok (big := big) hA hb)) ?_
    rintro v _ _ - ⟨rfl, Hs, how, rfl⟩
    refine gz_ ?_
    have e := attE_blk (big := big) (so := ss.length) (lo := ll.length) hS0 (by omega)
    have eS : attS a = [] := if_neg (by omega)
    have eL : attL a = [] := if_neg (by omega)
    refine WE.drop (b := ba) pk_ ?_
    refine WE.drop (b := bu) pk_ ?_
    rw [e, eS, eL, List.append_nil, List.append_nil]
    exact end_1 rfl rfl (Env.le.rfl' _) ⟨rfl, Hs, _, _, Ss, Sl, how, hvs, hvl, rfl⟩
  refine WC.condF rfl (beq_eq_false_iff_ne.2 k3) ?_
  refine gz_ ?_
  by_cases k4 : a.form = 4
  · rw [show (a.form == 4) = true from beq_iff_eq.2 k4]
    refine gz_ ?_
    refine WL.call rfl Tryz.call100 rfl rfl (by exact (blockText_ok (big := big) hA hb)) ?_
    rintro v _ _ - ⟨rfl, Hs, how, rfl⟩
    refine gz_ ?_
    have e := attE_blk (big := big) (so := ss.length) (lo := ll.length) hS0 (by omega)
    have eS : attS a = [] := if_neg (by omega)
    have eL : attL a = [] := if_neg (by omega)
    refine WE.drop (b := ba) pk_ ?_
    refine WE.drop (b := bu) pk_ ?_
    rw [e, eS, eL, List.append_nil, List.append_nil]
    exact end_1 rfl rfl (Env.le.rfl' _) ⟨rfl, Hs, _, _, Ss, Sl, how, hvs, hvl, rfl⟩
  refine WC.condF rfl (beq_eq_false_iff_ne.2 k4) ?_
  refine gz_ ?_
  by_cases k9 : a.form = 9
  · rw [show (a.form == 9) = true from beq_iff_eq.2 k9]
    refine gz_ ?_
    refine WL.call rfl Tryz.call100 rfl rfl (by exact (blockText_ok (big := big) hA hb)) ?_
    rintro v _ _ - ⟨rfl, Hs, how, rfl⟩
    refine gz_ ?_
    have e := attE_blk (big := big) (so := ss.length) (lo := ll.length) hS0 (by omega)
    have eS : attS a = [] := if_neg (by omega)
    have eL : attL a = [] := if_neg (by omega)
    refine WE.drop (b := ba) pk_ ?_
    refine WE.drop (b := bu) pk_ ?_
    rw [e, eS, eL, List.append_nil, List.append_nil]
    exact end_1 rfl rfl (Env.le.rfl' _) ⟨rfl, Hs, _, _, Ss, Sl, how, hvs, hvl, rfl⟩
  refine WC.condF rfl (beq_eq_false_iff_ne.2 k9) ?_
  refine gz_ ?_
  by_cases k10 : a.form = 10
  · rw [show (a.form == 10) = true from beq_iff_eq.2 k10]
    refine gz_ ?_
    refine WL.call rfl Tryz.call100 rfl rfl (by exact (blockText_ok (big := big) hA hb)) ?_
    rintro v _ _ - ⟨rfl, Hs, how, rfl⟩
    refine gz_ ?_
    have e := attE_blk (big := big) (so := ss.length) (lo := ll.length) hS0 (by omega)
    have eS : attS a = [] := if_neg (by omega)
    have eL : attL a = [] := if_neg (by omega)
    refine WE.drop (b := ba) pk_ ?_
    refine WE.drop (b := bu) pk_ ?_
    rw [e, eS, eL, List.append_nil, List.append_nil]
    exact end_1 rfl rfl (Env.le.rfl' _) ⟨rfl, Hs, _, _, Ss, Sl, how, hvs, hvl, rfl⟩
  refine WC.condF rfl (beq_eq_false_iff_ne.2 k10) ?_
  refine gz_ ?_
  by_cases k24 : a.form = 24
  · rw [show (a.form == 24) = true from beq_iff_eq.2 k24]
    refine gz_ ?_
    refine WL.call rfl Tryz.call100 rfl rfl (by exact (blockText_ok (big := big) hA hb)) ?_
    rintro v _ _ - ⟨rfl, Hs, how, rfl⟩
    refine gz_ ?_
    have e := attE_blk (big := big) (so := ss.length) (lo := ll.length) hS0 (by omega)
    have eS : attS a = [] := if_neg (by omega)
    have eL : attL a = [] := if_neg (by omega)
    refine WE.drop (b := ba) pk_ ?_
    refine WE.drop (b := bu) pk_ ?_
    rw [e, eS, eL, List.append_nil, List.append_nil]
    exact end_1 rfl rfl (Env.le.rfl' _) ⟨rfl, Hs, _, _, Ss, Sl, how, hvs, hvl, rfl⟩
  refine WC.condF rfl (beq_eq_false_iff_ne.2 k24) ?_
  refine gz_ ?_
  by_cases k8 : a.form = 8
  · rw [show (a.form == 8) = true from beq_iff_eq.2 k8]
    refine gz_ ?_
    refine WL.call rfl Tryz.call101 rfl rfl (by exact (zeroed_ok (s := a.s) (by omega))) ?_
    rintro v _ _ - ⟨rfl, Hs, how, rfl⟩
    refine gz_ ?_
    have e : attE vers w size big ss.length ll.length a = a.s.data.toList ++ [0] := by unfold attE; rw [hS0]; simp [k8]
    have eS : attS a = [] := if_neg (by omega)
    have eL : attL a = [] := if_neg (by omega)
    refine WE.drop (b := ba) pk_ ?_
    refine WE.drop (b := bu) pk_ ?_
    rw [e, eS, eL, List.append_nil, List.append_nil]
    exact end_1 rfl rfl (Env.le.rfl' _) ⟨rfl, Hs, _, _, Ss, Sl, how, hvs, hvl, rfl⟩
  refine WC.condF rfl (beq_eq_false_iff_ne.2 k8) ?_
  refine gz_ ?_
  by_cases k13 : a.form = 13
  · rw [show (a.form == 13) = true from beq_iff_eq.2 k13]
    refine gz_ ?_
    refine WL.call rfl Tryz.call79 rfl rfl (by exact (signed_ok (z := i64w a.n) (i64w_bd a.n).1 (i64w_bd a.n).2)) ?_
    rintro v _ _ - ⟨rfl, Hs, how, rfl⟩
    refine gz_ ?_
    have e : attE vers w size big ss.length ll.length a = slebL (i64w a.n) := by unfold attE; rw [hS0]; simp [k13]
    have eS : attS a = [] := if_neg (by omega)
    have eL : attL a = [] := if_neg (by omega)
    refine WE.drop (b := ba) pk_ ?_
    refine WE.drop (b := bu) pk_ ?_
    rw [e, eS, eL, List.append_nil, List.append_nil]
    exact end_1 rfl rfl (Env.le.rfl' _) ⟨rfl, Hs, _, _, Ss, Sl, how, hvs, hvl, rfl⟩
  refine WC.condF rfl (beq_eq_false_iff_ne.2 k13) ?_
  refine gz_ ?_
  by_cases k15 : a.form = 15
  · rw [show (a.form == 15) = true from beq_iff_eq.2 k15]
    refine gz_ ?_
    refine WL.call rfl Tryz.call50 rfl rfl (by exact (unsigned_ok (n := a.n) hn)) ?_
    rintro v _ _ - ⟨rfl, Hs, how, rfl⟩
    refine gz_ ?_
    have e : attE vers w size big ss.length ll.length a = ulebL a.n := by unfold attE; rw [hS0]; simp [k15]
    have eS : attS a = [] := if_neg (by omega)
    have eL : attL a = [] := if_neg (by omega)
    refine WE.drop (b := ba) pk_ ?_
    refine WE.drop (b := bu) pk_ ?_
    rw [e, eS, eL, List.append_nil, List.append_nil]
    exact end_1 rfl rfl (Env.le.rfl' _) ⟨rfl, Hs, _, _, Ss, Sl, how, hvs, hvl, rfl⟩
  refine WC.condF rfl (beq_eq_false_iff_ne.2 k15) ?_
  refine gz_ ?_
  by_cases k21 : a.form = 21
  · rw [show (a.form == 21) = true from beq_iff_eq.2 k21]
    refine gz_ ?_
    refine WL.call rfl Tryz.call50 rfl rfl (by exact (unsigned_ok (n := a.n) hn)) ?_
    rintro v _ _ - ⟨rfl, Hs, how, rfl⟩
    refine gz_ ?_
    have e : attE vers w size big ss.length ll.length a = ulebL a.n := by unfold attE; rw [hS0]; simp [k21]
    have eS : attS a = [] := if_neg (by omega)
    have eL : attL a = [] := if_neg (by omega)
    refine WE.drop (b := ba) pk_ ?_
    refine WE.drop (b := bu) pk_ ?_
    rw [e, eS, eL, List.append_nil, List.append_nil]
    exact end_1 rfl rfl (Env.le.rfl' _) ⟨rfl, Hs, _, _, Ss, Sl, how, hvs, hvl, rfl⟩
  refine WC.condF rfl (beq_eq_false_iff_ne.2 k21) ?_
  refine gz_ ?_
  by_cases k14 : a.form = 14
  · rw [show (a.form == 14) = true from beq_iff_eq.2 k14]
    refine gz_ ?_
    refine WC.draw 11 (.take 0 (.take 1 (.take 2 (.take 3 (.take 4 (.take 5 (.take 6 (.one 7 (.one 8 (.one 9 (.take 10 (.one 11 .done)))))))))))) ((pt, _) :: (ba, _) :: []) mixed (by (repeat (first | exact trivial | refine ⟨⟨_, pk_⟩, ?_⟩ | exact subH_self _ | apply subH_cons)); (first | done | fail)) (by decide +kernel) ?_
    refine dz_ ?_
    refine WL.call rfl Tryz.call101 rfl rfl (by exact (zeroed_ok (s := a.s) (by omega))) ?_
    rintro v _ _ - ⟨rfl, Hz, hz0, rfl⟩
    refine dz_ ?_
    have hzl : (a.s.data.toList ++ [0]).length ≤ 4097 := by rw [List.length_append, Array.length_toList]; simp only [List.length_singleton]; have : a.s.data.size = a.s.size := rfl; omega
    refine WL.append tab_ok rfl rfl rfl rfl rfl rfl rfl rfl hvs tk_ (hz0.src tab_ok rfl tk_ one_bytes) (by omega) (by omega) (fun v2 S2 how2 => ?_)
    obtain ⟨a9, c9, rfl⟩ := Ow.shape how2
    refine dz_ ?_
    refine gz_ ?_
    refine WL.call rfl Tryz.call77 rfl rfl (by exact (offset_ok (n := ss.length) (wide := w) (big := big) (by omega))) ?_
    rintro vo _ _ - ⟨rfl, Ho, ho, rfl⟩
    refine gz_ ?_
    rw [← bytesV_append] at how2
    have e : attE vers w size big ss.length ll.length a = fix ss.length (offSz w) big := by unfold attE; rw [hS0]; simp [k14]
    have eS : attS a = a.s.data.toList ++ [0] := if_pos k14
    have eL : attL a = [] := if_neg (by omega)
    refine WE.re (H2 := Ho ++ ((pt, cel [.slice a9 (ss.length + (a.s.data.toList ++ [0]).length) c9, .slice aL ll.length cL] 82) :: (S2 ++ (Sl ++ F)))) sn_ ?_
    rw [e, eS, eL, List.append_nil, fix_length]
    have h9 : Ow 1 (Value.slice a9 (ss.length + (a.s.data.toList ++ [0]).length) c9) (ss ++ (a.s.data.toList ++ [0])).length (bytesV (ss ++ (a.s.data.toList ++ [0]))) S2 := by
      have e9 : (ss ++ (a.s.data.toList ++ [0])).length = ss.length + (a.s.data.toList ++ [0]).length := List.length_append
      rw [e9]; exact how2
    exact end_1 rfl rfl (Env.le.rfl' _) ⟨rfl, Ho, _, _, S2, Sl, ho, h9, hvl, rfl⟩
  refine WC.condF rfl (beq_eq_false_iff_ne.2 k14) ?_
  refine gz_ ?_
  by_cases k31 : a.form = 31
  · rw [show (a.form == 31) = true from beq_iff_eq.2 k31]
    refine gz_ ?_
    refine WC.draw 11 (.take 0 (.take 1 (.take 2 (.take 3 (.take 4 (.take 5 (.take 6 (.one 7 (.one 8 (.one 9 (.take 10 (.one 11 .done)))))))))))) ((pt, _) :: (ba, _) :: []) mixed (by (repeat (first | exact trivial | refine ⟨⟨_, pk_⟩, ?_⟩ | exact subH_self _ | apply subH_cons)); (first | done | fail)) (by decide +kernel) ?_
    refine dz_ ?_
    refine WL.call rfl Tryz.call101 rfl rfl (by exact (zeroed_ok (s := a.s) (by omega))) ?_
    rintro v _ _ - ⟨rfl, Hz, hz0, rfl⟩
    refine dz_ ?_
    have hzl : (a.s.data.toList ++ [0]).length ≤ 4097 := by rw [List.length_append, Array.length_toList]; simp only [List.length_singleton]; have : a.s.data.size = a.s.size := rfl; omega
    refine WL.append tab_ok rfl rfl rfl rfl rfl rfl rfl rfl hvl tk_ (hz0.src tab_ok rfl tk_ one_bytes) (by omega) (by omega) (fun v2 S2 how2 => ?_)
    obtain ⟨a9, c9, rfl⟩ := Ow.shape how2
    refine dz_ ?_
    refine gz_ ?_
    refine WL.call rfl Tryz.call77 rfl rfl (by exact (offset_ok (n := ll.length) (wide := w) (big := big) (by omega))) ?_
    rintro vo _ _ - ⟨rfl, Ho, ho, rfl⟩
    refine gz_ ?_
    rw [← bytesV_append] at how2
    have e : attE vers w size big ss.length ll.length a = fix ll.length (offSz w) big := by unfold attE; rw [hS0]; simp [k31]
    have eS : attS a = [] := if_neg k14
    have eL : attL a = a.s.data.toList ++ [0] := if_pos k31
    refine WE.re (H2 := Ho ++ ((pt, cel [.slice aS ss.length cS, .slice a9 (ll.length + (a.s.data.toList ++ [0]).length) c9] 82) :: (Ss ++ (S2 ++ F)))) sn_ ?_
    rw [e, eS, eL, List.append_nil, fix_length]
    have h9 : Ow 1 (Value.slice a9 (ll.length + (a.s.data.toList ++ [0]).length) c9) (ll ++ (a.s.data.toList ++ [0])).length (bytesV (ll ++ (a.s.data.toList ++ [0]))) S2 := by
      have e9 : (ll ++ (a.s.data.toList ++ [0])).length = ll.length + (a.s.data.toList ++ [0]).length := List.length_append
      rw [e9]; exact how2
    exact end_1 rfl rfl (Env.le.rfl' _) ⟨rfl, Ho, _, _, Ss, S2, ho, hvs, h9, rfl⟩
  refine WC.condF rfl (beq_eq_false_iff_ne.2 k31) ?_
  refine gz_ ?_
  have e : attE vers w size big ss.length ll.length a = [] := by unfold attE; rw [hS0]; simp [k3, k4, k9, k10, k24, k8, k13, k15, k21, k14, k31]
  have eS : attS a = [] := if_neg k14
  have eL : attL a = [] := if_neg k31
  refine WE.drop (b := ba) pk_ ?_
  refine WE.drop (b := bu) pk_ ?_
  rw [e, eS, eL, List.append_nil, List.append_nil]
  exact end_1 rfl rfl (Env.le.rfl' _) ⟨rfl, [], _, _, Ss, Sl, Ow.nil, hvs, hvl, rfl⟩
end Go.Proofs.YtdplhbmoidepgaaGreatDoor
namespace Go.Sl
open Go
theorem Tk.one {x : Blk} {H : List Blk} : Tk (x :: H) [x] H := Tk.here (Hs := [x])
end Go.Sl
namespace Go.Proofs.YtdplhbmoidepgaaGreatDoor
open Go Go.Sl
set_option maxRecDepth 10000
set_option maxHeartbeats 40000000

theorem code_ok {Γ : Env} {H : List Blk} {i : Nat} (hi : i < 65536) :
   Spc Tryz.prog 54 #[.int .i64 (i : Int)] Γ H (fun v Γ' H' => Γ = Γ' ∧ H = H' ∧ v = .int .u64 ((1 + 50 * i : Nat) : Int)) := by
  refine Spc.body1 Tryz.func54 rfl Tryz.ntmps54 rfl ?_
  refine gz_ ?_
  exact end_1 rfl rfl (Env.le.rfl' _) ⟨rfl, rfl, by
    rw [w_i64 (x := 50 * (i : Int)) (by omega) (by omega), w_i64 (by omega) (by omega), w_u64 (by omega) (by omega)]
    congr 1⟩
def hdrE (v size : Int) (w : Bool) (n : Nat) (big : Bool) : List UInt8 :=
  fix v.toNat 2 big ++ (if 4 < v then [1, UInt8.ofNat size.toNat] ++ fix n (offSz w) big else fix n (offSz w) big ++ [UInt8.ofNat size.toNat])
theorem header_ok {Γ : Env} {H : List Blk} {v size : Int} {w : Bool} {vn : Value} {n : Nat} {big : Bool} (hv : 2 ≤ v) (hv5 : v ≤ 5) (hz : size = 4 ∨ size = 8) (hn : n < 9223372036854775808) :
   Spc Tryz.prog 51 #[.agg #[.int .i64 v, .bool w, .int .i64 size, vn], .int .i64 (n : Int), .bool big] Γ H (fun r Γ' H' => Γ = Γ' ∧ ∃ Hs, Ow 1 r (hdrE v size w n big).length (bytesV (hdrE v size w n big)) Hs ∧ H' = Hs ++ H) := by
  have hw8 : IntKind.u8.wrap size = ((UInt8.ofNat size.toNat).toNat : Int) := by rw [u8_of (by omega), w_u8 (by omega) (by omega)]; omega
  have hwv : IntKind.u64.wrap v = ((v.toNat : Nat) : Int) := by rw [w_u64 (by omega) (by omega)]; omega
  have hof := osz_bd w
  have hoz : offSz w = osz w := rfl
  refine Spc.body3 Tryz.func51 rfl Tryz.ntmps51 rfl ?_
  refine WC.seq ?_
  refine WC.region ?_
  (refine WL.box rfl spi_ rfl ?_; intro bx)
  refine gz_ ?_
  rw [hwv]
  refine WL.call rfl Tryz.call46 rfl rfl (by exact (fixed_ok (n := v.toNat) (s := 2) (big := big) (by omega) (by decide))) ?_
  rintro r0 _ _ - ⟨rfl, H0, how, rfl⟩
  refine gz_ ?_
  by_cases h4 : 4 < v
  · refine WC.condT rfl (decide_eq_true h4) ?_
    refine gz_ ?_
    refine WC.draw 13 (.take 0 (.take 1 (.take 2 (.take 3 (.take 6 (.take 7 (.take 8 (.take 9 (.one 4 (.one 5 (.one 10 (.one 11 (.one 12 .done))))))))))))) ((bx, _) :: []) mixed (by (repeat (first | exact trivial | refine ⟨⟨_, pk_⟩, ?_⟩ | exact subH_self _ | apply subH_cons)); (first | done | fail)) (by decide +kernel) ?_
    refine dz_ ?_
    rw [hw8]
    (refine WL.lit tab_ok rfl rfl rfl rfl rfl rfl rfl spi_ rfl ?_; intro bl)
    refine dz_ ?_
    refine WL.append tab_ok rfl rfl rfl rfl rfl rfl rfl rfl how tk_ ((Ow.lit (s := 1) (b := bl) (k := 2) (l := bytesV [1, UInt8.ofNat size.toNat]) (T := 5) rfl).src tab_ok rfl (Tk.here (Hs := [(bl, _)])) one_bytes) (by decide) (by decide) (fun v2 Hs2 how2 => ?_)
    refine dz_ ?_
    refine WL.call rfl Tryz.call77 rfl rfl (by exact (offset_ok (n := n) (wide := w) (big := big) hn)) ?_
    rintro r3 _ _ - ⟨rfl, H3, how3, rfl⟩
    refine dz_ ?_
    refine WL.append tab_ok rfl rfl rfl rfl rfl rfl rfl rfl how2 tk_ (how3.src tab_ok rfl tk_ one_bytes) (by omega) (by omega) (fun v4 Hs4 how4 => ?_)
    refine dz_ ?_
    refine gz_ ?_
    refine WE.re (H2 := Hs4 ++ H) sn_ ?_
    rw [← bytesV_append, ← bytesV_append, List.append_assoc] at how4
    have e : hdrE v size w n big = fix v.toNat 2 big ++ ([1, UInt8.ofNat size.toNat] ++ fix n (offSz w) big) := by simp [hdrE, h4]
    have el : (hdrE v size w n big).length = 2 + 2 + offSz w := by rw [e]; simp [fix_length]; omega
    refine end_1 rfl rfl (Env.le.rfl' _) ⟨rfl, Hs4, ?_, rfl⟩
    rw [el, e]; exact how4
  · refine WC.condF rfl (decide_eq_false h4) ?_
    refine gz_ ?_
    have hfin : ∀ v2 Hs2, Ow 1 v2 (2 + offSz w + 1) (bytesV (fix v.toNat 2 big) ++ bytesV (fix n (offSz w) big) ++ bytesV [UInt8.ofNat size.toNat]) Hs2 → Ow 1 v2 (hdrE v size w n big).length (bytesV (hdrE v size w n big)) Hs2 := fun v2 Hs2 h => by
      have e : hdrE v size w n big = fix v.toNat 2 big ++ (fix n (offSz w) big ++ [UInt8.ofNat size.toNat]) := by simp [hdrE, h4]
      have el : (hdrE v size w n big).length = 2 + offSz w + 1 := by rw [e]; simp [fix_length]; omega
      rw [el, e]
      rw [← bytesV_append, ← bytesV_append, List.append_assoc] at h; exact h
    refine WC.cutM (fun R' Γ' H' => ∃ r H4, R' = [(6, r)] ∧ Γ = Γ' ∧ H' = H4 ++ H ∧ Ow 1 r (hdrE v size w n big).length (bytesV (hdrE v size w n big)) H4) ?_ ?_
    · refine WC.draw 13 (.take 0 (.take 1 (.take 2 (.take 3 (.take 4 (.take 7 (.take 8 (.take 9 (.two 5 10 (.two 6 10 (.one 10 (.one 11 (.one 12 .done))) (.one 6 (.one 11 (.one 12 .done)))) (.one 5 (.one 6 (.one 11 (.one 12 .done))))))))))))) ((bx, _) :: []) mixed (by (repeat (first | exact trivial | refine ⟨⟨_, pk_⟩, ?_⟩ | exact subH_self _ | apply subH_cons)); (first | done | fail)) (by decide +kernel) ?_
      refine dz_ ?_
      refine WD.two rfl rfl ?_ ?_
      · refine WL.call rfl Tryz.call77 rfl rfl (by exact (offset_ok (n := n) (wide := w) (big := big) hn)) ?_
        rintro r3 _ _ - ⟨rfl, H3, how3, rfl⟩
        refine dz_ ?_
        refine WD.two rfl rfl ?_ ?_
        · refine WL.append tab_ok rfl rfl rfl rfl rfl rfl rfl rfl how tk_ (how3.src tab_ok rfl tk_ one_bytes) (by omega) (by omega) (fun v2 Hs2 how2 => ?_)
          refine dz_ ?_
          rw [hw8]
          (refine WL.lit tab_ok rfl rfl rfl rfl rfl rfl rfl spi_ rfl ?_; intro bl)
          refine dz_ ?_
          refine WL.append tab_ok rfl rfl rfl rfl rfl rfl rfl rfl how2 tk_ ((Ow.lit (s := 1) (b := bl) (k := 1) (l := bytesV [UInt8.ofNat size.toNat]) (T := 5) rfl).src tab_ok rfl (by ((repeat (first | apply Tk.one | apply Tk.skip | apply Tk.over)); (first | done | fail))) one_bytes) (by omega) (by omega) (fun v4 Hs4 how4 => ?_)
          refine dz_ ?_
          exact WE.mid ⟨_, Hs4, rfl, rfl, rfl, hfin _ _ how4⟩ sr_ sn_
        · refine dz_ ?_
          rw [hw8]
          (refine WL.lit tab_ok rfl rfl rfl rfl rfl rfl rfl spi_ rfl ?_; intro bl)
          refine dz_ ?_
          refine WL.append tab_ok rfl rfl rfl rfl rfl rfl rfl rfl how tk_ (how3.src tab_ok rfl tk_ one_bytes) (by omega) (by omega) (fun v2 Hs2 how2 => ?_)
          refine dz_ ?_
          refine WL.append tab_ok rfl rfl rfl rfl rfl rfl rfl rfl how2 tk_ ((Ow.lit (s := 1) (b := bl) (k := 1) (l := bytesV [UInt8.ofNat size.toNat]) (T := 5) rfl).src tab_ok rfl (by ((repeat (first | apply Tk.one | apply Tk.skip | apply Tk.over)); (first | done | fail))) one_bytes) (by omega) (by omega) (fun v4 Hs4 how4 => ?_)
          refine dz_ ?_
          exact WE.mid ⟨_, Hs4, rfl, rfl, rfl, hfin _ _ how4⟩ sr_ sn_
      · refine dz_ ?_
        rw [hw8]
        (refine WL.lit tab_ok rfl rfl rfl rfl rfl rfl rfl spi_ rfl ?_; intro bl)
        refine dz_ ?_
        refine WL.call rfl Tryz.call77 rfl rfl (by exact (offset_ok (n := n) (wide := w) (big := big) hn)) ?_
        rintro r3 _ _ - ⟨rfl, H3, how3, rfl⟩
        refine dz_ ?_
        refine WL.append tab_ok rfl rfl rfl rfl rfl rfl rfl rfl how tk_ (how3.src tab_ok rfl tk_ one_bytes) (by omega) (by omega) (fun v2 Hs2 how2 => ?_)
        refine dz_ ?_
        refine WL.append tab_ok rfl rfl rfl rfl rfl rfl rfl rfl how2 tk_ ((Ow.lit (s := 1) (b := bl) (k := 1) (l := bytesV [UInt8.ofNat size.toNat]) (T := 5) rfl).src tab_ok rfl (by ((repeat (first | apply Tk.one | apply Tk.skip | apply Tk.over)); (first | done | fail))) one_bytes) (by omega) (by omega) (fun v4 Hs4 how4 => ?_)
        refine dz_ ?_
        exact WE.mid ⟨_, Hs4, rfl, rfl, rfl, hfin _ _ how4⟩ sr_ sn_
    · rintro R' _ H' ⟨r, H4, rfl, rfl, rfl, how4⟩
      refine gz_ ?_
      exact end_1 rfl rfl (Env.le.rfl' _) ⟨rfl, H4, how4, rfl⟩
end Go.Proofs.YtdplhbmoidepgaaGreatDoor
namespace Go.Sl
open Go
theorem Ow.to {v : Value} {n : Nat} {l l' : List UInt8} {Hs : List Blk} (h : Ow 1 v n (bytesV l) Hs) (e : l = l') : Ow 1 v l'.length (bytesV l') Hs := by
  subst e
  have h1 := h.len
  rw [show (bytesV l).length = l.length from by simp [bytesV]] at h1
  have : l.length = n := by omega
  rw [this]; exact h
end Go.Sl
namespace Go.Proofs.YtdplhbmoidepgaaGreatDoor
open Go Go.Sl
set_option maxRecDepth 10000
set_option maxHeartbeats 40000000

/-- What the texts need of an attribute. -/
structure AttT (a : Att) : Prop where
  a0 : 0 ≤ a.attr
  a1 : a.attr < 256
  f0 : 0 ≤ a.form
  f1 : a.form < 256
  sl : a.s.size ≤ 4096
  bl : a.b.length ≤ 4096
def attA (a : Att) : AbF := ⟨a.attr.toNat, if a.ind then 22 else a.form.toNat, if a.form = 33 then i64w a.n else 0⟩
def abbE (i : Nat) (x : Nod) : Abb := ⟨1 + 50 * i, x.tag.toNat, x.ch, (if x.sib then [⟨1, 19, 0⟩] else []) ++ x.atts.map attA⟩
theorem encF_len {a : Att} (h : AttT a) : (encF (attA a)).length ≤ 14 := by
  obtain ⟨h1, h2, h3, h4, -, -⟩ := h
  have e1 : (ulebL (attA a).attr).length ≤ 1 + 1 := ulebL_len 1 _ (by simp [attA]; omega)
  have e2 : (ulebL (attA a).form).length ≤ 1 + 1 := ulebL_len 1 _ (by unfold attA; simp only []; split <;> omega)
  have e3 : (slebL (attA a).val).length ≤ 10 := by
    have := i64w_bd a.n
    unfold attA; simp only []; split
    · exact slebL_len10 this.1 this.2
    · exact slebL_len10 (by decide) (by decide)
  unfold encF
  rw [List.length_append, List.length_append]
  split
  · omega
  · simp only [List.length_nil]; omega
theorem encFs_len14 {l : List Att} (h : ∀ a ∈ l, AttT a) : (encFs (l.map attA)).length ≤ 14 * l.length := by
  induction l with
  | nil => simp [encFs]
  | cons a l ih =>
    have h1 := encF_len (h a (List.mem_cons_self ..))
    have h2 := ih fun b hb => h b (List.mem_cons_of_mem _ hb)
    rw [List.map_cons, encFs, List.length_append, List.length_cons]; omega
/-- What stands ahead of the attributes. -/
def abH (i : Nat) (x : Nod) : List UInt8 := ulebL (1 + 50 * i) ++ ulebL x.tag.toNat ++ [if x.ch then 1 else 0] ++ (if x.sib then [1, 19] else [])
theorem abbrev_ok {Γ : Env} {H : List Blk} {i : Nat} {x : Nod} {c : List Value} (hi : i < 65536) (h : NodC Γ x c) (h0 : 0 ≤ x.tag) (h1 : x.tag ≤ 65535) (hn : x.atts.length ≤ 100) (ha : ∀ a ∈ x.atts, AttT a) :
   Spc Tryz.prog 52 #[.int .i64 (i : Int), .agg c.toArray] Γ H (fun r Γ' H' => Γ = Γ' ∧ ∃ Hs, Ow 1 r (encA (abbE i x)).length (bytesV (encA (abbE i x))) Hs ∧ H' = Hs ++ H) := by
  obtain ⟨vn, rfl, a0, cap0, cells0, rfl, hcap0, hA0, hL0⟩ := h
  have hwt : IntKind.u64.wrap x.tag = ((x.tag.toNat : Nat) : Int) := by rw [w_u64 (by omega) (by omega)]; omega
  have hl1 : (ulebL (1 + 50 * i)).length ≤ 10 := ulebL_len10 (by omega)
  have hl2 : (ulebL x.tag.toNat).length ≤ 10 := ulebL_len10 (by omega)
  refine Spc.body2 Tryz.func52 rfl Tryz.ntmps52 rfl ?_
  refine WC.seq ?_
  refine WC.region ?_
  (refine WL.box rfl spi_ rfl ?_; intro bx)
  refine gz_ ?_
  refine WC.draw 9 (.take 0 (.take 3 (.take 4 (.take 5 (.one 1 (.one 2 (.one 6 (.one 7 (.one 8 .done))))))))) ((bx, _) :: []) mixed (by (repeat (first | exact trivial | refine ⟨⟨_, pk_⟩, ?_⟩ | exact subH_self _ | apply subH_cons)); (first | done | fail)) (by decide +kernel) ?_
  refine dz_ ?_
  refine WL.call rfl Tryz.call54 rfl rfl (by exact (code_ok hi)) ?_
  rintro _ _ _ - ⟨rfl, rfl, rfl⟩
  refine dz_ ?_
  refine WL.call rfl Tryz.call50 rfl rfl (by exact (unsigned_ok (n := 1 + 50 * i) (by omega))) ?_
  rintro r1 _ _ - ⟨rfl, H1, how1, rfl⟩
  refine dz_ ?_
  rw [hwt]
  refine WL.call rfl Tryz.call50 rfl rfl (by exact (unsigned_ok (n := x.tag.toNat) (by omega))) ?_
  rintro r2 _ _ - ⟨rfl, H2, how2, rfl⟩
  refine dz_ ?_
  refine WL.append tab_ok rfl rfl rfl rfl rfl rfl rfl rfl how1 tk_ (how2.src tab_ok rfl tk_ one_bytes) (by omega) (by omega) (fun v3 Hs3 how3 => ?_)
  refine dz_ ?_
  refine WC.seq ?_
  refine WC.region ?_
  refine gs_ ?_
  refine WE.then_ ?_
  refine WC.seq ?_
  refine WC.cutM (fun R' Γ' H' => R' = [(3, .pointer (some ⟨bx, 0, none⟩)), (5, v3), (6, .int .u8 (((if x.ch then 1 else 0 : UInt8)).toNat : Int))] ∧ Γ = Γ' ∧ H' = Hs3 ++ ((bx, cel [.int .i64 x.tag, .bool x.ch, .bool x.sib, .slice a0 x.atts.length cap0] 61) :: H)) ?_ ?_
  · refine gz_ ?_
    cases hch : x.ch with
    | true =>
      refine gz_ ?_
      exact WE.mid ⟨rfl, rfl, rfl⟩ sr_ sn_
    | false =>
      refine gz_ ?_
      exact WE.mid ⟨rfl, rfl, rfl⟩ sr_ sn_
  rintro _ _ _ ⟨rfl, rfl, rfl⟩
  refine WE.then_ ?_
  refine WC.seq ?_
  refine WC.region ?_
  refine gs_ ?_
  (refine WL.lit tab_ok rfl rfl rfl rfl rfl rfl rfl spi_ rfl ?_; intro bl)
  refine gs_ ?_
  refine WL.append tab_ok rfl rfl rfl rfl rfl rfl rfl rfl how3 tk_ ((Ow.lit (s := 1) (b := bl) (k := 1) (l := bytesV [if x.ch then 1 else 0]) (T := 5) rfl).src tab_ok rfl (by ((repeat (first | apply Tk.one | apply Tk.skip | apply Tk.over)); (first | done | fail))) one_bytes) (by omega) (by omega) (fun v4 Hs4 how4 => ?_)
  refine gs_ ?_
  refine WE.then_ ?_
  refine WC.seq ?_
  refine WC.cutM (fun R' Γ' H' => ∃ r Hs, R' = [(3, .pointer (some ⟨bx, 0, none⟩)), (5, r)] ∧ Γ = Γ' ∧ Ow 1 r (abH i x).length (bytesV (abH i x)) Hs ∧ H' = Hs ++ ((bx, cel [.int .i64 x.tag, .bool x.ch, .bool x.sib, .slice a0 x.atts.length cap0] 61) :: H)) ?_ ?_
  · refine gz_ ?_
    rw [← bytesV_append, ← bytesV_append] at how4
    cases hs : x.sib with
    | true =>
      refine gz_ ?_
      (refine WL.lit tab_ok rfl rfl rfl rfl rfl rfl rfl spi_ rfl ?_; intro bl2)
      refine gz_ ?_
      refine WL.append tab_ok rfl rfl rfl rfl rfl rfl rfl rfl how4 tk_ ((Ow.lit (s := 1) (b := bl2) (k := 2) (l := bytesV [1, 19]) (T := 5) rfl).src tab_ok rfl (by ((repeat (first | apply Tk.one | apply Tk.skip | apply Tk.over)); (first | done | fail))) one_bytes) (by omega) (by omega) (fun v5 Hs5 how5 => ?_)
      refine gz_ ?_
      rw [← bytesV_append] at how5
      refine WE.mid ⟨_, Hs5, rfl, rfl, ?_, rfl⟩ sr_ sn_
      have el : (abH i x).length = (ulebL (1 + 50 * i)).length + (ulebL x.tag.toNat).length + 1 + 2 := by simp [abH, hs]; omega
      rw [el, abH, hs]; exact how5
    | false =>
      refine gz_ ?_
      refine WE.mid ⟨_, Hs4, rfl, rfl, ?_, rfl⟩ sr_ sn_
      have el : (abH i x).length = (ulebL (1 + 50 * i)).length + (ulebL x.tag.toNat).length + 1 := by simp [abH, hs]; omega
      rw [el, abH, hs]; simpa using how4
  rintro _ _ _ ⟨r, Hs, rfl, rfl, how, rfl⟩
  have hhl : (abH i x).length ≤ 23 := by unfold abH; cases x.sib <;> simp <;> omega
  refine gz_ ?_
  have hsum : ∀ k, (encFs ((x.atts.take k).map attA)).length ≤ 14 * k := fun k => Nat.le_trans (encFs_len14 fun a h => ha a (List.mem_of_mem_take h)) (by rw [List.length_take]; omega)
  refine WC.loopE (fun m R' Γ' H' => ∃ k v Hs, R' = [(5, v), (30, .slice a0 x.atts.length cap0), (31, .int .i64 (x.atts.length : Int)), (32, .int .i64 ((k : Nat) : Int))] ∧ Γ = Γ' ∧ H' = Hs ++ H ∧ m = x.atts.length - k ∧ k ≤ x.atts.length ∧ Ow 1 v (abH i x ++ encFs ((x.atts.take k).map attA)).length (bytesV (abH i x ++ encFs ((x.atts.take k).map attA))) Hs)
    ⟨0, r, Hs, rfl, rfl, rfl, rfl, Nat.zero_le _, by simpa [encFs] using how⟩ sr_ sn_ ?_
  clear how
  rintro m R' Γ' H' ⟨k, v, Hs, rfl, rfl, rfl, rfl, hk, how⟩
  have hkl := hsum k
  rcases Nat.lt_or_ge k x.atts.length with hlt | hge
  case inr =>
    have ek : k = x.atts.length := by omega
    subst ek
    refine gz_ ?_
    refine WC.condF rfl (decide_eq_false (by omega)) ?_
    refine gz_ ?_
    (refine WL.lit tab_ok rfl rfl rfl rfl rfl rfl rfl spi_ rfl ?_; intro bl3)
    refine gz_ ?_
    rw [List.take_length] at how
    rw [List.take_length] at hkl
    have hl9 : (abH i x ++ encFs (x.atts.map attA)).length ≤ 2000 := by rw [List.length_append]; omega
    refine WL.append tab_ok rfl rfl rfl rfl rfl rfl rfl rfl how tk_ ((Ow.lit (s := 1) (b := bl3) (k := 2) (l := bytesV [0, 0]) (T := 5) rfl).src tab_ok rfl (by ((repeat (first | apply Tk.one | apply Tk.skip | apply Tk.over)); (first | done | fail))) one_bytes) (by omega) (by omega) (fun v5 Hs5 how5 => ?_)
    refine gz_ ?_
    rw [← bytesV_append] at how5
    have e : encA (abbE i x) = abH i x ++ encFs (x.atts.map attA) ++ [0, 0] := by
      unfold encA abbE abH; cases x.sib <;> cases x.ch <;> simp [encFs, encFs_append, encF, ulebL_small]
    refine WE.re (H2 := Hs5 ++ H) sn_ ?_
    refine end_1 rfl rfl (Env.le.rfl' _) ⟨rfl, Hs5, ?_, rfl⟩
    rw [e, List.length_append]; exact how5
  case inl =>
    obtain ⟨y, hy⟩ : ∃ y, x.atts[k]? = some y := ⟨_, List.getElem?_eq_getElem hlt⟩
    obtain ⟨bb, oo, c, rfl, hP, hc⟩ := elemA hA0 hL0 (fun _ _ h => h.len) (w := 6) (by decide) hy
    obtain ⟨vb, rfl, ⟨ab, cb, rfl, -, -⟩, hyn⟩ := hP
    have hyt := ha y (List.mem_of_getElem? hy)
    obtain ⟨ya0, ya1, yf0, yf1, -, -⟩ := hyt
    have hwi : IntKind.i64.wrap ((k : Int) + 1) = (k : Int) + 1 := w_i64 (by omega) (by omega)
    refine gz_ ?_
    refine WC.condT rfl (by first | rfl | exact decide_eq_true (by omega) | (simp; (first | done | fail)) | (simp; omega)) ?_
    refine gz_ ?_
    (refine WL.alloc tab_ok rfl rfl ?_; intro b8)
    refine gz_ ?_
    refine WC.cutM (fun R' Γ' H' => R' = [(5, v), (8, .pointer (some ⟨b8, 0, none⟩)), (9, .int .i64 (attA y).form), (30, .slice (some ⟨bb, oo, none⟩) x.atts.length cap0), (31, .int .i64 (x.atts.length : Int)), (32, .int .i64 ((k : Nat) : Int))] ∧ Γ = Γ' ∧ H' = (b8, cel [.int .i64 y.attr, .int .i64 y.form, .bool y.ind, .int .u64 (y.n : Int), .string y.s, .slice ab y.b.length cb] 63) :: (Hs ++ H)) ?_ ?_
    · refine gz_ ?_
      cases hi2 : y.ind with
      | true =>
        refine gz_ ?_
        have e : ((attA y).form : Int) = 22 := by simp [attA, hi2]
        rw [e]
        exact WE.mid ⟨rfl, rfl, rfl⟩ sr_ sn_
      | false =>
        refine gz_ ?_
        have e : ((attA y).form : Int) = y.form := by simp [attA, hi2]; omega
        rw [e]
        exact WE.mid ⟨rfl, rfl, rfl⟩ sr_ sn_
    rintro _ _ _ ⟨rfl, rfl, rfl⟩
    have hya : IntKind.u64.wrap y.attr = ((attA y).attr : Int) := by rw [w_u64 (by omega) (by omega)]; simp [attA]; omega
    have hyf : IntKind.u64.wrap ((attA y).form : Int) = ((attA y).form : Int) := by
      have : (attA y).form < 256 := by unfold attA; simp only []; split <;> omega
      rw [w_u64 (by omega) (by omega)]
    have hfl : (attA y).form < 256 := by unfold attA; simp only []; split <;> omega
    have hal : (attA y).attr < 256 := by simp [attA]; omega
    have hl1 : (ulebL (attA y).attr).length ≤ 10 := ulebL_len10 (by omega)
    have hl2 : (ulebL (attA y).form).length ≤ 10 := ulebL_len10 (by omega)
    have hl9 : (abH i x ++ encFs ((x.atts.take k).map attA)).length ≤ 1500 := by rw [List.length_append]; omega
    have htk : encFs ((x.atts.take (k + 1)).map attA) = encFs ((x.atts.take k).map attA) ++ encF (attA y) := by
      rw [List.take_add_one, hy, Option.toList_some, List.map_append, encFs_append]; simp [encFs]
    refine gz_ ?_
    rw [hya]
    refine WL.call rfl Tryz.call50 rfl rfl (by exact (unsigned_ok (n := (attA y).attr) (by omega))) ?_
    rintro r1 _ _ - ⟨rfl, H1, how1, rfl⟩
    refine gz_ ?_
    refine WL.append tab_ok rfl rfl rfl rfl rfl rfl rfl rfl how tk_ (how1.src tab_ok rfl tk_ one_bytes) (by omega) (by omega) (fun v3 Hs3 how3 => ?_)
    refine gz_ ?_
    rw [hyf]
    refine WL.call rfl Tryz.call50 rfl rfl (by exact (unsigned_ok (n := (attA y).form) (by omega))) ?_
    rintro r2 _ _ - ⟨rfl, H2, how2, rfl⟩
    refine gz_ ?_
    refine WL.append tab_ok rfl rfl rfl rfl rfl rfl rfl rfl how3 tk_ (how2.src tab_ok rfl tk_ one_bytes) (by omega) (by omega) (fun v4 Hs4 how4 => ?_)
    rw [← bytesV_append, ← bytesV_append] at how4
    refine gz_ ?_
    by_cases h33 : (attA y).form = 33
    · refine WC.condT rfl (beq_iff_eq.2 (by omega)) ?_
      have hyf33 : y.form = 33 := by
        by_cases hi2 : y.ind = true
        · simp [attA, hi2] at h33
        · simp [attA, hi2] at h33; omega
      refine gz_ ?_
      refine WL.call rfl Tryz.call79 rfl rfl (by exact (signed_ok (z := i64w y.n) (i64w_bd y.n).1 (i64w_bd y.n).2)) ?_
      rintro r5 _ _ - ⟨rfl, H5, how5, rfl⟩
      have hl5 : (slebL (i64w y.n)).length ≤ 10 := slebL_len10 (i64w_bd y.n).1 (i64w_bd y.n).2
      refine gz_ ?_
      refine WL.append tab_ok rfl rfl rfl rfl rfl rfl rfl rfl how4 tk_ (how5.src tab_ok rfl tk_ one_bytes) (by omega) (by omega) (fun v6 Hs6 how6 => ?_)
      rw [← bytesV_append] at how6
      refine gz_ ?_
      refine WE.again ⟨k + 1, v6, Hs6, rfl, rfl, rfl, rfl, hlt, ?_⟩ (by omega) ⟨rfl, rfl, rfl, congrArg (fun z => some (Value.int .i64 z)) hwi, trivial⟩ sn_
      have e : encF (attA y) = ulebL (attA y).attr ++ (ulebL (attA y).form ++ slebL (i64w y.n)) := by
        unfold encF; rw [if_pos h33]; simp [attA, hyf33]
      exact how6.to (by rw [htk, e]; simp [List.append_assoc])
    · refine WC.condF rfl (beq_eq_false_iff_ne.2 (by omega)) ?_
      refine gz_ ?_
      refine WE.again ⟨k + 1, v4, Hs4, rfl, rfl, rfl, rfl, hlt, ?_⟩ (by omega) ⟨rfl, rfl, rfl, congrArg (fun z => some (Value.int .i64 z)) hwi, trivial⟩ sn_
      have e : encF (attA y) = ulebL (attA y).attr ++ ulebL (attA y).form := by
        unfold encF; rw [if_neg h33]; simp
      exact how4.to (by rw [htk, e]; simp [List.append_assoc])
end Go.Proofs.YtdplhbmoidepgaaGreatDoor
namespace Go.Sl
open Go Go.BigFrame
def zstr : ByteArray := ⟨#[0, 0, 0, 0]⟩
theorem append_zeros {P : Program} {t ti ts ty e : TypeId} {i : TypeInfo} {k : IntKind} (ht : P.underlying t = some (.slice e)) (hti : P.underlying ti = some (.int k)) (hts : P.underlying ts = some .string) (hi : P.info? e = some i) (h1 : i.size = 1) (hb : i.bytes = 1) (hz : i.zero = some (.int .u8 0))
    (base : Option Addr) (sLen sCap : Nat) (h63 : sLen + 4 ≤ 140737488355328) (w : World) :
    (Builtin.append_ #[t, ti] ty #[.slice base sLen sCap, .int .i64 4]).run P w = (Builtin.append_ #[t, ts] ty #[.slice base sLen sCap, .string zstr]).run P w := by
  have h2 : IntKind.i64.wrap 4 = 4 := by decide
  have hn63 : ¬ (9223372036854775807 < ((sLen : Int) + 4)) := by omega
  have hz4 : Builtin.zeroCells (Value.int .u8 0).cells 4 = #[.int .u8 0, .int .u8 0, .int .u8 0, .int .u8 0] := by
    have e : (Value.int .u8 0).cells = #[.int .u8 0] := rfl
    have e2 : (Array.range 4) = #[0, 1, 2, 3] := by decide +kernel
    simp [Builtin.zeroCells, e, e2]
  have hsz : zstr.size = 4 := by decide +kernel
  have hex : zstr.extract 0 4 = zstr := by decide +kernel
  have hmap : (zstr.data.map fun b => Value.int .u8 b.toNat) = #[.int .u8 0, .int .u8 0, .int .u8 0, .int .u8 0] := by simp [zstr]
  by_cases hroom : sLen + 4 ≤ sCap
  · simp [Builtin.append_, run_underlying ht, run_underlying hti, run_underlying hts, sizeOf, typeInfo, zeroValue, hi, hb, h1, hz, h2, hroom, Builtin.lenOf, Builtin.firstCells, asInt, asIntOf, hz4, hsz, hex, hmap]
  · have hg : sCap < sLen + 4 := by omega
    have hfit := growslice_fits (bytes := 1) hg (by omega)
    have hn : ¬ (sLen + 4 ≤ sCap) := by omega
    rw [Nat.mul_one] at hfit
    have hfit' : ¬ (281474976710656 < Builtin.nextslicecap (sLen + 4) sCap) := by omega
    simp [Builtin.append_, run_underlying ht, run_underlying hti, run_underlying hts, sizeOf, typeInfo, zeroValue, hi, hb, h1, hz, h2, hn, hn63, hfit', Builtin.lenOf, Builtin.firstCells, asInt, asIntOf, hz4, hsz, hex, hmap]
    intro h; omega
section
variable {P : Program} {ops : Array Oper} {Q : Post} {n : Nat} {D : List Deferred} {R : Regs} {Γ : Env} {H : List Blk} {rest : List Oper}
variable {d : Nat} {ty : TypeId} {pos : String} {aft : Array Edge}
theorem WL.appendZ {T : Tab} (hT : TabOk P T) {t tx ts e : TypeId} {x : Operand} {kk : IntKind} {j : TI} {v : Value} {k : Nat} {l : List Value} {Hs F : List Blk}
    (hx : ev R x = some v) (ht : T.desc t = some (.slice e)) (hti : T.desc tx = some (.int kk)) (hts : T.desc ts = some .string) (hj : T.get e = some j) (hz : Nat.beq (llen j.zc) j.size = true) (hs1 : j.size = 1) (hb1 : j.bytes = 1) (hz0 : j.zero = .int .u8 0)
    (hd : Nat.blt d n = true) (how : Ow 1 v k l Hs) (hH : Tk H Hs F) (hb : k + 4 ≤ 140737488355328)
    (K : ∀ v' Hs', Ow 1 v' (k + 4) (l ++ bytesV [0, 0, 0, 0]) Hs' → WL P ops Q n D rest ((d, v') :: R) Γ (Hs' ++ F)) :
    WL P ops Q n D (⟨some d, .call { callee := .builtin .append, args := #[x, .const (.int .i64 4)], argTypes := #[t, tx] }, ty, pos, aft, none⟩ :: rest) R Γ H :=
  WL.value hd fun a w hw => by
    have how' : Ow j.size v k l Hs := by rw [hs1]; exact how
    obtain ⟨_, i, hi, his, hib, hiz, hzc⟩ := hT.get hj
    obtain ⟨v', w', Hs', hr, ho, hst⟩ := exec_append (ty := ty) (tx := ts) (u := .string zstr) (m := 4) (news := bytesV [0, 0, 0, 0]) hT ht hj hz how' (by rw [hs1]; exact Src.ofString w (Tab.desc_ok hT hts) zstr) (by rw [hb1]; omega) (by omega) (hw.st.perm hH.perm)
    rw [hs1] at ho
    refine ⟨v', w', ?_, Γ, _, hst, K v' Hs' ho⟩
    have hv : ∃ base sLen sCap, v = .slice base sLen sCap ∧ sLen = k := by cases how <;> exact ⟨_, _, _, rfl, rfl⟩
    obtain ⟨base, sLen, sCap, rfl, rfl⟩ := hv
    have hze : i.zero = some (.int .u8 0) := by rw [← hz0]; exact hiz
    have hr2 := append_zeros (ty := ty) (Tab.desc_ok hT ht) (Tab.desc_ok hT hti) (Tab.desc_ok hT hts) hi (his.trans hs1) (hib.trans hb1) hze base sLen sCap hb w
    rw [hr] at hr2
    have e4 : a.eval (.const (.int .i64 4)) = Value.int .i64 4 := rfl
    simp only [execOp, Sem.run_bind]
    simp [resolve, Go.invoke, builtin, ev_eval hw.regs hx, e4, hr2, Result.andThen]
end
end Go.Sl
namespace Go.Proofs.YtdplhbmoidepgaaGreatDoor
open Go Go.Sl
set_option maxRecDepth 10000
set_option maxHeartbeats 40000000

theorem pickTk2 {H H1 H2 A B F : List Blk} {b : Nat} {o : Obj} (h : Pick H b o H1) (h1 : Tk H1 A H2) (h2 : Tk H2 B F) : H.Perm ((b, o) :: (A ++ (B ++ F))) :=
  h.perm.trans ((h1.perm.trans (h2.perm.append_left A)).cons _)
/-- An attribute in an entry's text. -/
def attP (v : Int) (w : Bool) (z : Int) (big : Bool) (so lo : Nat) (a : Att) : List UInt8 := (if a.ind then ulebL a.form.toNat else []) ++ attE v w z big so lo a
def attsP (v : Int) (w : Bool) (z : Int) (big : Bool) : Nat → Nat → List Att → List UInt8
  | _, _, [] => []
  | so, lo, a :: l => attP v w z big so lo a ++ attsP v w z big (so + (attS a).length) (lo + (attL a).length) l
def attsS (l : List Att) : List UInt8 := l.flatMap attS
def attsL (l : List Att) : List UInt8 := l.flatMap attL
def nodE (v : Int) (w : Bool) (z : Int) (big : Bool) (so lo i : Nat) (x : Nod) (sb : List UInt8) : List UInt8 :=
  if x.tag = 0 then [0] else ulebL (1 + 50 * i) ++ ((if x.sib then sb else []) ++ attsP v w z big so lo x.atts)
theorem attsP_snoc {v : Int} {w : Bool} {z : Int} {big : Bool} {a : Att} : ∀ {l : List Att} {so lo : Nat}, attsP v w z big so lo (l ++ [a]) = attsP v w z big so lo l ++ attP v w z big (so + (attsS l).length) (lo + (attsL l).length) a
  | [], so, lo => by simp [attsP, attsS, attsL]
  | b :: l, so, lo => by
    rw [List.cons_append, attsP, attsP_snoc, attsP, List.append_assoc]
    simp only [attsS, attsL, List.flatMap_cons, List.length_append, Nat.add_assoc]
theorem attS_len (a : Att) : (attS a).length ≤ wA a := by
  unfold attS wA; split
  · rw [List.length_append, Array.length_toList]; have : a.s.data.size = a.s.size := rfl; simp; omega
  · simp
theorem attL_len (a : Att) : (attL a).length ≤ wA a := by
  unfold attL wA; split
  · rw [List.length_append, Array.length_toList]; have : a.s.data.size = a.s.size := rfl; simp; omega
  · simp
theorem attsS_len : ∀ l : List Att, (attsS l).length ≤ sumBy wA l
  | [] => by simp [attsS]
  | a :: l => by have := attS_len a; have := attsS_len l; simp only [attsS, List.flatMap_cons, List.length_append, sumBy] at *; omega
theorem attsL_len : ∀ l : List Att, (attsL l).length ≤ sumBy wA l
  | [] => by simp [attsL]
  | a :: l => by have := attL_len a; have := attsL_len l; simp only [attsL, List.flatMap_cons, List.length_append, sumBy] at *; omega
theorem attE_len {v : Int} {w : Bool} {z : Int} {big : Bool} {so lo : Nat} {a : Att} (hz : z = 4 ∨ z = 8) (h : AttT a) (hn : a.n < 18446744073709551616) : (attE v w z big so lo a).length + 2 ≤ wA a := by
  have h1 := szOf_cases (v := v) (f := a.form) (w := w) hz
  have hb := h.bl
  have e1 : (ulebL a.b.length).length ≤ 10 := ulebL_len10 (by omega)
  have e2 : (ulebL a.n).length ≤ 10 := ulebL_len10 (by omega)
  have e3 := slebL_len10 (i64w_bd a.n).1 (i64w_bd a.n).2
  have e4 := osz_bd w
  have e5 : offSz w = osz w := rfl
  have e6 : a.s.data.size = a.s.size := rfl
  unfold wA attE
  by_cases hS : 0 < szOf v w z a.form
  · rw [if_pos hS, fix_length]; omega
  rw [if_neg hS]
  by_cases k1 : a.form = 10
  · rw [if_pos k1, List.length_append, fix_length]; omega
  rw [if_neg k1]
  by_cases k2 : a.form = 3
  · rw [if_pos k2, List.length_append, fix_length]; omega
  rw [if_neg k2]
  by_cases k3 : a.form = 4
  · rw [if_pos k3, List.length_append, fix_length]; omega
  rw [if_neg k3]
  by_cases k4 : a.form = 9 ∨ a.form = 24
  · rw [if_pos k4, List.length_append]; omega
  rw [if_neg k4]
  by_cases k5 : a.form = 8
  · rw [if_pos k5, List.length_append, Array.length_toList]; simp; omega
  rw [if_neg k5]
  by_cases k6 : a.form = 13
  · rw [if_pos k6]; omega
  rw [if_neg k6]
  by_cases k7 : a.form = 15 ∨ a.form = 21
  · rw [if_pos k7]; omega
  rw [if_neg k7]
  by_cases k8 : a.form = 14
  · rw [if_pos k8, fix_length]; omega
  rw [if_neg k8]
  by_cases k9 : a.form = 31
  · rw [if_pos k9, fix_length]; omega
  rw [if_neg k9]
  simp; omega
theorem attP_len {v : Int} {w : Bool} {z : Int} {big : Bool} {so lo : Nat} {a : Att} (hz : z = 4 ∨ z = 8) (h : AttT a) (hn : a.n < 18446744073709551616) : (attP v w z big so lo a).length ≤ wA a := by
  have h1 := attE_len (v := v) (w := w) (big := big) (so := so) (lo := lo) hz h hn
  have h2 : (ulebL a.form.toNat).length ≤ 1 + 1 := ulebL_len 1 _ (by have := h.f0; have := h.f1; omega)
  unfold attP; split <;> simp only [List.length_append, List.length_nil] <;> omega
theorem attsP_len {v : Int} {w : Bool} {z : Int} {big : Bool} (hz : z = 4 ∨ z = 8) : ∀ {l : List Att} {so lo : Nat}, (∀ a ∈ l, AttT a ∧ a.n < 18446744073709551616) → (attsP v w z big so lo l).length ≤ sumBy wA l
  | [], _, _, _ => by simp [attsP]
  | a :: l, so, lo, h => by
    have h1 := attP_len (v := v) (w := w) (big := big) (so := so) (lo := lo) hz (h a (List.mem_cons_self ..)).1 (h a (List.mem_cons_self ..)).2
    have h2 := attsP_len (v := v) (w := w) (big := big) hz (l := l) (so := so + (attS a).length) (lo := lo + (attL a).length) fun b hb => h b (List.mem_cons_of_mem _ hb)
    simp only [attsP, List.length_append, sumBy]; omega
structure NodT (x : Nod) : Prop where
  t0 : 0 ≤ x.tag
  t1 : x.tag ≤ 65535
  na : x.atts.length ≤ 100
  nul : x.tag = 0 → x.atts = []
  att : ∀ a ∈ x.atts, AttT a
theorem sumBy_take_le {α : Type} (f : α → Nat) : ∀ (l : List α) (k : Nat), sumBy f (l.take k) ≤ sumBy f l
  | [], k => by simp
  | a :: l, 0 => by simp [sumBy]
  | a :: l, k + 1 => by have := sumBy_take_le f l k; simp only [List.take_succ_cons, sumBy]; omega
theorem nodeText_ok {Γ : Env} {H F : List Blk} {u : Uni} {c : List Value} {x : Nod} {i : Nat} {big : Bool} {pt : Nat} {vs vl : Value} {ss ll : List UInt8} {Ss Sl : List Blk}
   (hu : UniC Γ u c) (hz : u.size = 4 ∨ u.size = 8) (hx : u.nods[i]? = some x) (hi : i < 65536) (hxt : NodT x)
   (hp : H.Perm ((pt, cel [vs, vl] 82) :: (Ss ++ (Sl ++ F)))) (hvs : Ow 1 vs ss.length (bytesV ss) Ss) (hvl : Ow 1 vl ll.length (bytesV ll) Sl) (hss : ss.length + sumBy wA x.atts < 2147483648) (hll : ll.length + sumBy wA x.atts < 2147483648) :
   Spc Tryz.prog 53 #[.agg c.toArray, .int .i64 (i : Int), .bool big, .pointer (some ⟨pt, 0, none⟩)] Γ H (fun v Γ' H' => Γ = Γ' ∧ ∃ Hs vs2 vl2 Ss2 Sl2, Ow 1 v (nodE u.vers u.wide u.size big ss.length ll.length i x [0, 0, 0, 0]).length (bytesV (nodE u.vers u.wide u.size big ss.length ll.length i x [0, 0, 0, 0])) Hs ∧
     Ow 1 vs2 (ss ++ attsS x.atts).length (bytesV (ss ++ attsS x.atts)) Ss2 ∧ Ow 1 vl2 (ll ++ attsL x.atts).length (bytesV (ll ++ attsL x.atts)) Sl2 ∧ H' = Hs ++ ((pt, cel [vs2, vl2] 82) :: (Ss2 ++ (Sl2 ++ F)))) := by
  obtain ⟨vn, rfl, hAn⟩ := hu
  obtain ⟨an, capn, cellsn, rfl, hcapn, hAn, hLn⟩ := hAn
  obtain ⟨bn, on, cx, rfl, hX, hcx⟩ := elemA hAn hLn (fun _ _ h => h.len) (w := 4) (by decide) hx
  obtain ⟨va, rfl, a0, cap0, cells0, rfl, hcap0, hA0, hL0⟩ := hX
  have hil : i < u.nods.length := (List.getElem?_eq_some_iff.1 hx).1
  have hl1 : (ulebL (1 + 50 * i)).length ≤ 10 := ulebL_len10 (by omega)
  refine Spc.perm ?_ hp
  refine Spc.body4 Tryz.func53 rfl Tryz.ntmps53 rfl ?_
  refine WC.seq ?_
  refine WC.region ?_
  (refine WL.box rfl spi_ rfl ?_; intro bu)
  refine gz_ ?_
  (refine WL.alloc tab_ok rfl rfl ?_; intro b9)
  refine gz_ ?_
  by_cases ht : x.tag = 0
  · refine WC.condT rfl (beq_iff_eq.2 ht) ?_
    refine gz_ ?_
    (refine WL.lit tab_ok rfl rfl rfl rfl rfl rfl rfl spi_ rfl ?_; intro bl)
    refine gz_ ?_
    have hat : x.atts = [] := hxt.nul ht
    have e : nodE u.vers u.wide u.size big ss.length ll.length i x [0, 0, 0, 0] = [0] := if_pos ht
    refine WE.re (H2 := [(bl, cel (bytesV [0]) 5)] ++ ((pt, cel [vs, vl] 82) :: (Ss ++ (Sl ++ F)))) sn_ ?_
    refine end_1 rfl rfl (Env.le.rfl' _) ⟨rfl, _, vs, vl, Ss, Sl, ?_, ?_, ?_, rfl⟩
    · rw [e]; exact Ow.lit (s := 1) (b := bl) (k := 1) (l := bytesV [0]) (T := 5) rfl
    · rw [hat]; simpa [attsS] using hvs
    · rw [hat]; simpa [attsL] using hvl
  refine WC.condF rfl (beq_eq_false_iff_ne.2 ht) ?_
  refine gz_ ?_
  refine WL.call rfl Tryz.call54 rfl rfl (by exact (code_ok hi)) ?_
  rintro _ _ _ - ⟨rfl, rfl, rfl⟩
  refine gz_ ?_
  refine WL.call rfl Tryz.call50 rfl rfl (by exact (unsigned_ok (n := 1 + 50 * i) (by omega))) ?_
  rintro r1 _ _ - ⟨rfl, H1, how1, rfl⟩
  refine gs_ ?_
  refine WE.then_ ?_
  refine WC.seq ?_
  have hsl : (if x.sib then [0, 0, 0, 0] else [] : List UInt8).length ≤ 4 := by cases x.sib <;> simp
  refine WC.cutM (fun R' Γ' H' => ∃ r Hs, R' = [(2, .bool big), (3, .pointer (some ⟨pt, 0, none⟩)), (4, .pointer (some ⟨bu, 0, none⟩)), (9, .pointer (some ⟨b9, 0, none⟩)), (10, r)] ∧ Γ = Γ' ∧ Ow 1 r (ulebL (1 + 50 * i) ++ (if x.sib then [0, 0, 0, 0] else [])).length (bytesV (ulebL (1 + 50 * i) ++ (if x.sib then [0, 0, 0, 0] else []))) Hs ∧
     H' = Hs ++ ((b9, cel [.int .i64 x.tag, .bool x.ch, .bool x.sib, .slice a0 x.atts.length cap0] 61) :: (bu, cel [.int .i64 u.vers, .bool u.wide, .int .i64 u.size, .slice (some ⟨bn, on, none⟩) u.nods.length capn] 58) :: (pt, cel [vs, vl] 82) :: (Ss ++ (Sl ++ F)))) ?_ ?_
  · refine gz_ ?_
    cases hs : x.sib with
    | true =>
      refine gz_ ?_
      refine WL.appendZ (ts := 9) tab_ok rfl rfl rfl rfl rfl rfl rfl rfl rfl rfl how1 tk_ (by omega) (fun v2 Hs2 how2 => ?_)
      refine gz_ ?_
      rw [← bytesV_append] at how2
      exact WE.mid ⟨v2, Hs2, rfl, rfl, how2.to rfl, rfl⟩ sr_ sn_
    | false =>
      refine gz_ ?_
      exact WE.mid ⟨r1, H1, rfl, rfl, how1.to (by simp), rfl⟩ sr_ sn_
  rintro _ _ _ ⟨r, Hs, rfl, rfl, how, rfl⟩
  have hn64 : ∀ a ∈ x.atts, a.n < 18446744073709551616 := fun a ha => by
    obtain ⟨k, hk⟩ := List.getElem?_of_mem ha
    obtain ⟨b', o', c', -, ⟨_, -, -, h⟩, -⟩ := elemA hA0 hL0 (fun _ _ h => h.len) (w := 6) (by decide) hk
    exact h
  have hpl : ∀ k, (attsP u.vers u.wide u.size big ss.length ll.length (x.atts.take k)).length ≤ sumBy wA x.atts := fun k =>
    Nat.le_trans (attsP_len hz fun a ha => ⟨hxt.att a (List.mem_of_mem_take ha), hn64 a (List.mem_of_mem_take ha)⟩) (sumBy_take_le wA _ _)
  have hsS : ∀ k, (attsS (x.atts.take k)).length ≤ sumBy wA x.atts := fun k => Nat.le_trans (attsS_len _) (sumBy_take_le wA _ _)
  have hsL : ∀ k, (attsL (x.atts.take k)).length ≤ sumBy wA x.atts := fun k => Nat.le_trans (attsL_len _) (sumBy_take_le wA _ _)
  have hna := hxt.na
  refine gz_ ?_
  refine WC.loopE (fun m R' Γ' H' => ∃ k v Hs vs vl Ss Sl, R' = [(2, .bool big), (3, .pointer (some ⟨pt, 0, none⟩)), (4, .pointer (some ⟨bu, 0, none⟩)), (10, v), (30, .slice a0 x.atts.length cap0), (31, .int .i64 (x.atts.length : Int)), (32, .int .i64 ((k : Nat) : Int))] ∧ Γ = Γ' ∧
     H' = Hs ++ ((bu, cel [.int .i64 u.vers, .bool u.wide, .int .i64 u.size, .slice (some ⟨bn, on, none⟩) u.nods.length capn] 58) :: (pt, cel [vs, vl] 82) :: (Ss ++ (Sl ++ F))) ∧ m = x.atts.length - k ∧ k ≤ x.atts.length ∧
     Ow 1 v (ulebL (1 + 50 * i) ++ ((if x.sib then [0, 0, 0, 0] else []) ++ attsP u.vers u.wide u.size big ss.length ll.length (x.atts.take k))).length (bytesV (ulebL (1 + 50 * i) ++ ((if x.sib then [0, 0, 0, 0] else []) ++ attsP u.vers u.wide u.size big ss.length ll.length (x.atts.take k)))) Hs ∧
     Ow 1 vs (ss ++ attsS (x.atts.take k)).length (bytesV (ss ++ attsS (x.atts.take k))) Ss ∧ Ow 1 vl (ll ++ attsL (x.atts.take k)).length (bytesV (ll ++ attsL (x.atts.take k))) Sl)
    ⟨0, r, Hs, vs, vl, Ss, Sl, rfl, rfl, rfl, rfl, Nat.zero_le _, how.to (by simp [attsP]), hvs.to (by simp [attsS]), hvl.to (by simp [attsL])⟩ sr_ sn_ ?_
  clear how hvs hvl
  rintro m R' Γ' H' ⟨k, v, Hs, vs, vl, Ss, Sl, rfl, rfl, rfl, rfl, hk, how, hvs, hvl⟩
  rcases Nat.lt_or_ge k x.atts.length with hlt | hge
  case inr =>
    have ek : k = x.atts.length := by omega
    subst ek
    refine gz_ ?_
    refine WC.condF rfl (decide_eq_false (by omega)) ?_
    refine gz_ ?_
    rw [List.take_length] at how hvs hvl
    refine WE.re (H2 := Hs ++ ((pt, cel [vs, vl] 82) :: (Ss ++ (Sl ++ F)))) sn_ ?_
    exact end_1 rfl rfl (Env.le.rfl' _) ⟨rfl, Hs, vs, vl, Ss, Sl, how.to (by rw [nodE, if_neg ht]), hvs, hvl, rfl⟩
  case inl =>
    obtain ⟨y, hy⟩ : ∃ y, x.atts[k]? = some y := ⟨_, List.getElem?_eq_getElem hlt⟩
    obtain ⟨bb, oo, c, rfl, hP, hc⟩ := elemA hA0 hL0 (fun _ _ h => h.len) (w := 6) (by decide) hy
    have hP2 := hP
    obtain ⟨vb, rfl, ⟨ab, cb, rfl, -, -⟩, hyn⟩ := hP
    have hyt := hxt.att y (List.mem_of_getElem? hy)
    have hy2 := hyt
    obtain ⟨ya0, ya1, yf0, yf1, ysl, ybl⟩ := hyt
    have hwi : IntKind.i64.wrap ((k : Int) + 1) = (k : Int) + 1 := w_i64 (by omega) (by omega)
    have hkP := hpl k
    have hkS := hsS k
    have hkL := hsL k
    have hyP := attP_len (v := u.vers) (w := u.wide) (big := big) (so := ss.length + (attsS (x.atts.take k)).length) (lo := ll.length + (attsL (x.atts.take k)).length) hz hy2 hyn
    have htk : x.atts.take (k + 1) = x.atts.take k ++ [y] := by rw [List.take_add_one, hy]; rfl
    have hl9 : (ulebL (1 + 50 * i) ++ ((if x.sib then [0, 0, 0, 0] else []) ++ attsP u.vers u.wide u.size big ss.length ll.length (x.atts.take k))).length ≤ 14 + sumBy wA x.atts := by
      rw [List.length_append, List.length_append]; omega
    have hyf : IntKind.u64.wrap y.form = ((y.form.toNat : Nat) : Int) := by rw [w_u64 (by omega) (by omega)]; omega
    refine gz_ ?_
    refine WC.condT rfl (by first | rfl | exact decide_eq_true (by omega) | (simp; (first | done | fail)) | (simp; omega)) ?_
    refine gz_ ?_
    (refine WL.alloc tab_ok rfl rfl ?_; intro b12)
    refine gz_ ?_
    refine WC.cutM (fun R' Γ' H' => ∃ v Hs, R' = [(2, .bool big), (3, .pointer (some ⟨pt, 0, none⟩)), (4, .pointer (some ⟨bu, 0, none⟩)), (10, v), (12, .pointer (some ⟨b12, 0, none⟩)), (30, .slice (some ⟨bb, oo, none⟩) x.atts.length cap0), (31, .int .i64 (x.atts.length : Int)), (32, .int .i64 ((k : Nat) : Int))] ∧ Γ = Γ' ∧
      H' = Hs ++ ((b12, cel [.int .i64 y.attr, .int .i64 y.form, .bool y.ind, .int .u64 (y.n : Int), .string y.s, .slice ab y.b.length cb] 63) :: (bu, cel [.int .i64 u.vers, .bool u.wide, .int .i64 u.size, .slice (some ⟨bn, on, none⟩) u.nods.length capn] 58) :: (pt, cel [vs, vl] 82) :: (Ss ++ (Sl ++ F))) ∧
      Ow 1 v ((ulebL (1 + 50 * i) ++ ((if x.sib then [0, 0, 0, 0] else []) ++ attsP u.vers u.wide u.size big ss.length ll.length (x.atts.take k))) ++ (if y.ind then ulebL y.form.toNat else [])).length (bytesV ((ulebL (1 + 50 * i) ++ ((if x.sib then [0, 0, 0, 0] else []) ++ attsP u.vers u.wide u.size big ss.length ll.length (x.atts.take k))) ++ (if y.ind then ulebL y.form.toNat else []))) Hs) ?_ ?_
    · refine gz_ ?_
      cases hi2 : y.ind with
      | true =>
        refine gz_ ?_
        rw [hyf]
        refine WL.call rfl Tryz.call50 rfl rfl (by exact (unsigned_ok (n := y.form.toNat) (by omega))) ?_
        rintro r2 _ _ - ⟨rfl, H2, how2, rfl⟩
        have hl2 : (ulebL y.form.toNat).length ≤ 10 := ulebL_len10 (by omega)
        refine gz_ ?_
        refine WL.append tab_ok rfl rfl rfl rfl rfl rfl rfl rfl how tk_ (how2.src tab_ok rfl tk_ one_bytes) (by omega) (by omega) (fun v4 Hs4 how4 => ?_)
        rw [← bytesV_append] at how4
        refine gz_ ?_
        exact WE.mid ⟨v4, Hs4, rfl, rfl, rfl, how4.to (by simp)⟩ sr_ sn_
      | false =>
        refine gz_ ?_
        exact WE.mid ⟨v, Hs, rfl, rfl, rfl, how.to (by simp)⟩ sr_ sn_
    clear how
    rintro _ _ _ ⟨v, Hs, rfl, rfl, rfl, how⟩
    have hind : (if y.ind then ulebL y.form.toNat else []).length + (attE u.vers u.wide u.size big (ss.length + (attsS (x.atts.take k)).length) (ll.length + (attsL (x.atts.take k)).length) y).length ≤ wA y := by
      rw [attP, List.length_append] at hyP; exact hyP
    have hwy : wA y ≤ sumBy wA x.atts := sumBy_mem wA (List.mem_of_getElem? hy)
    refine gz_ ?_
    refine WL.call rfl Tryz.call80 rfl rfl (by exact (attrText_ok (big := big) hz hP2 ybl ysl (pickTk2 pk_ tk_ tk_) hvs hvl (by rw [List.length_append]; omega) (by rw [List.length_append]; omega))) ?_
    rintro r5 _ _ - ⟨rfl, H5, vs5, vl5, Ss5, Sl5, how5, hvs5, hvl5, rfl⟩
    refine gz_ ?_
    rw [show (ss ++ attsS (x.atts.take k)).length = ss.length + (attsS (x.atts.take k)).length from List.length_append, show (ll ++ attsL (x.atts.take k)).length = ll.length + (attsL (x.atts.take k)).length from List.length_append] at how5
    refine WL.append tab_ok rfl rfl rfl rfl rfl rfl rfl rfl how tk_ (how5.src tab_ok rfl tk_ one_bytes) (by rw [List.length_append]; omega) (by rw [List.length_append]; omega) (fun v6 Hs6 how6 => ?_)
    rw [← bytesV_append] at how6
    refine gz_ ?_
    refine WE.again ⟨k + 1, v6, Hs6, vs5, vl5, Ss5, Sl5, rfl, rfl, rfl, rfl, hlt, how6.to ?_, hvs5.to ?_, hvl5.to ?_⟩ (by omega) ⟨rfl, rfl, rfl, rfl, rfl, rfl, congrArg (fun z => some (Value.int .i64 z)) hwi, trivial⟩ sn_
    · rw [htk, attsP_snoc, attP]; simp only [List.append_assoc]
    · rw [htk]; simp [attsS]
    · rw [htk]; simp [attsL]
end Go.Proofs.YtdplhbmoidepgaaGreatDoor
namespace Go.Proofs.YtdplhbmoidepgaaGreatDoor
open Go Go.Sl
set_option maxRecDepth 10000
set_option maxHeartbeats 40000000

def nilS : Value := .slice none 0 0
def noStr : Value := .string ⟨#[]⟩
/-- The cells of what is told of an attribute. -/
def valC (c : Int) (base : Nat) (a : Att) (vb : Value) : List Value :=
  if c = 1 ∨ c = 11 then [.int .i64 c, .int .i64 1, .int .u64 (a.n : Int), noStr, nilS]
  else if c = 2 ∨ c = 4 then [.int .i64 c, .int .i64 5, .int .u64 0, noStr, vb]
  else if c = 3 ∨ c = 6 then [.int .i64 c, .int .i64 2, .int .u64 (a.n : Int), noStr, nilS]
  else if c = 5 then [.int .i64 c, .int .i64 3, .int .u64 (if a.form = 25 then 1 else (a.n : Int)), noStr, nilS]
  else if c = 10 then [.int .i64 c, .int .i64 6, .int .u64 (if a.form = 16 then (a.n : Int) else IntKind.u64.wrap ((a.n : Int) + base)), noStr, nilS]
  else if c = 12 then [.int .i64 c, .int .i64 4, .int .u64 0, .string a.s, nilS]
  else [.int .i64 c, .int .i64 0, .int .u64 (a.n : Int), noStr, nilS]
def valV (v : Int) (base : Nat) (a : Att) (vb : Value) : List Value := valC (clsOf v a.attr a.form).1 base a vb
theorem valueOf_ok {Γ : Env} {H : List Blk} {vers size : Int} {w : Bool} {vn : Value} {a : Att} {c : List Value} {base : Nat} (h : AttC Γ a c) (hb : base < 9223372036854775808) :
   Spc Tryz.prog 81 #[.agg #[.int .i64 vers, .bool w, .int .i64 size, vn], .int .i64 (base : Int), .agg c.toArray] Γ H (fun r Γ' H' => Γ = Γ' ∧ H = H' ∧ ∃ vb, c = [.int .i64 a.attr, .int .i64 a.form, .bool a.ind, .int .u64 (a.n : Int), .string a.s, vb] ∧ Byt Γ vb a.b ∧ r = .agg (valV vers base a vb).toArray) := by
  have hA := h
  obtain ⟨vb, rfl, hB, hn⟩ := h
  have hB2 := hB
  obtain ⟨ab, cb, rfl, -, -⟩ := hB
  refine Spc.body3 Tryz.func81 rfl Tryz.ntmps81 rfl ?_
  refine WC.seq ?_
  refine WC.region ?_
  (refine WL.box rfl spi_ rfl ?_; intro bu)
  (refine WL.box rfl spi_ rfl ?_; intro ba)
  (refine WL.alloc tab_ok rfl rfl ?_; intro b6)
  refine gz_ ?_
  refine WL.call rfl Tryz.call74 rfl rfl (by exact (class_ok vers a.attr a.form)) ?_
  rintro _ _ _ - ⟨rfl, rfl, rfl⟩
  refine gz_ ?_
  (refine WL.alloc tab_ok rfl rfl ?_; intro b9)
  refine gz_ ?_
  unfold valV
  generalize (clsOf vers a.attr a.form).1 = k
  by_cases k1 : k = 1
  · subst k1
    refine gz_ ?_
    refine WE.re (H2 := (b6, cel [.int .i64 1, .int .i64 1, .int .u64 (a.n : Int), noStr, nilS] 117) :: H) sn_ ?_
    exact end_c tab_ok rfl rfl rfl rfl Pick.here rfl (Env.le.rfl' _) ⟨rfl, rfl, _, rfl, hB2, rfl⟩
  refine WC.condF rfl (beq_eq_false_iff_ne.2 k1) ?_
  refine gz_ ?_
  by_cases k11 : k = 11
  · subst k11
    refine gz_ ?_
    refine WE.re (H2 := (b6, cel [.int .i64 11, .int .i64 1, .int .u64 (a.n : Int), noStr, nilS] 117) :: H) sn_ ?_
    exact end_c tab_ok rfl rfl rfl rfl Pick.here rfl (Env.le.rfl' _) ⟨rfl, rfl, _, rfl, hB2, rfl⟩
  refine WC.condF rfl (beq_eq_false_iff_ne.2 k11) ?_
  refine gz_ ?_
  by_cases k2 : k = 2
  · subst k2
    refine gz_ ?_
    refine WC.draw 7 (.take 0 (.take 1 (.take 2 (.one 3 (.take 4 (.one 5 (.take 6 (.one 7 .done)))))))) ((ba, _) :: []) mixed (by (repeat (first | exact trivial | refine ⟨⟨_, pk_⟩, ?_⟩ | exact subH_self _ | apply subH_cons)); (first | done | fail)) (by decide +kernel) ?_
    refine dz_ ?_
    refine gz_ ?_
    refine WE.re (H2 := (b6, cel [.int .i64 2, .int .i64 5, .int .u64 0, noStr, .slice ab a.b.length cb] 117) :: H) sn_ ?_
    exact end_c tab_ok rfl rfl rfl rfl Pick.here rfl (Env.le.rfl' _) ⟨rfl, rfl, _, rfl, hB2, rfl⟩
  refine WC.condF rfl (beq_eq_false_iff_ne.2 k2) ?_
  refine gz_ ?_
  by_cases k4 : k = 4
  · subst k4
    refine gz_ ?_
    refine WC.draw 7 (.take 0 (.take 1 (.take 2 (.one 3 (.take 4 (.one 5 (.take 6 (.one 7 .done)))))))) ((ba, _) :: []) mixed (by (repeat (first | exact trivial | refine ⟨⟨_, pk_⟩, ?_⟩ | exact subH_self _ | apply subH_cons)); (first | done | fail)) (by decide +kernel) ?_
    refine dz_ ?_
    refine gz_ ?_
    refine WE.re (H2 := (b6, cel [.int .i64 4, .int .i64 5, .int .u64 0, noStr, .slice ab a.b.length cb] 117) :: H) sn_ ?_
    exact end_c tab_ok rfl rfl rfl rfl Pick.here rfl (Env.le.rfl' _) ⟨rfl, rfl, _, rfl, hB2, rfl⟩
  refine WC.condF rfl (beq_eq_false_iff_ne.2 k4) ?_
  refine gz_ ?_
  by_cases k3 : k = 3
  · subst k3
    refine gz_ ?_
    refine WE.re (H2 := (b6, cel [.int .i64 3, .int .i64 2, .int .u64 (a.n : Int), noStr, nilS] 117) :: H) sn_ ?_
    exact end_c tab_ok rfl rfl rfl rfl Pick.here rfl (Env.le.rfl' _) ⟨rfl, rfl, _, rfl, hB2, rfl⟩
  refine WC.condF rfl (beq_eq_false_iff_ne.2 k3) ?_
  refine gz_ ?_
  by_cases k6 : k = 6
  · subst k6
    refine gz_ ?_
    refine WE.re (H2 := (b6, cel [.int .i64 6, .int .i64 2, .int .u64 (a.n : Int), noStr, nilS] 117) :: H) sn_ ?_
    exact end_c tab_ok rfl rfl rfl rfl Pick.here rfl (Env.le.rfl' _) ⟨rfl, rfl, _, rfl, hB2, rfl⟩
  refine WC.condF rfl (beq_eq_false_iff_ne.2 k6) ?_
  refine gz_ ?_
  by_cases k5 : k = 5
  · subst k5
    refine gz_ ?_
    by_cases f25 : a.form = 25
    · rw [show (a.form == 25) = true from beq_iff_eq.2 f25]
      refine gz_ ?_
      refine WE.re (H2 := (b6, cel [.int .i64 5, .int .i64 3, .int .u64 1, noStr, nilS] 117) :: H) sn_ ?_
      exact end_c tab_ok rfl rfl rfl rfl Pick.here rfl (Env.le.rfl' _) ⟨rfl, rfl, _, rfl, hB2, by simp [valC, f25]⟩
    · rw [show (a.form == 25) = false from beq_eq_false_iff_ne.2 f25]
      refine gz_ ?_
      refine WE.re (H2 := (b6, cel [.int .i64 5, .int .i64 3, .int .u64 (a.n : Int), noStr, nilS] 117) :: H) sn_ ?_
      exact end_c tab_ok rfl rfl rfl rfl Pick.here rfl (Env.le.rfl' _) ⟨rfl, rfl, _, rfl, hB2, by simp [valC, f25]⟩
  refine WC.condF rfl (beq_eq_false_iff_ne.2 k5) ?_
  refine gz_ ?_
  by_cases k10 : k = 10
  · subst k10
    refine gz_ ?_
    by_cases f16 : a.form = 16
    · rw [show (a.form != 16) = false from by rw [f16]; rfl]
      refine gz_ ?_
      refine WE.re (H2 := (b6, cel [.int .i64 10, .int .i64 6, .int .u64 (a.n : Int), noStr, nilS] 117) :: H) sn_ ?_
      exact end_c tab_ok rfl rfl rfl rfl Pick.here rfl (Env.le.rfl' _) ⟨rfl, rfl, _, rfl, hB2, by simp [valC, f16]⟩
    · rw [show (a.form != 16) = true from bne_iff_ne.2 f16]
      refine gz_ ?_
      rw [show IntKind.u64.wrap (base : Int) = (base : Int) from w_u64 (by omega) (by omega)]
      refine WE.re (H2 := (b6, cel [.int .i64 10, .int .i64 6, .int .u64 (IntKind.u64.wrap ((a.n : Int) + base)), noStr, nilS] 117) :: H) sn_ ?_
      exact end_c tab_ok rfl rfl rfl rfl Pick.here rfl (Env.le.rfl' _) ⟨rfl, rfl, _, rfl, hB2, by simp [valC, f16]⟩
  refine WC.condF rfl (beq_eq_false_iff_ne.2 k10) ?_
  refine gz_ ?_
  by_cases k12 : k = 12
  · subst k12
    refine gz_ ?_
    refine WC.draw 7 (.take 0 (.take 1 (.take 2 (.one 3 (.take 4 (.one 5 (.take 6 (.one 7 .done)))))))) ((ba, _) :: []) mixed (by (repeat (first | exact trivial | refine ⟨⟨_, pk_⟩, ?_⟩ | exact subH_self _ | apply subH_cons)); (first | done | fail)) (by decide +kernel) ?_
    refine dz_ ?_
    refine gz_ ?_
    refine WE.re (H2 := (b6, cel [.int .i64 12, .int .i64 4, .int .u64 0, .string a.s, nilS] 117) :: H) sn_ ?_
    exact end_c tab_ok rfl rfl rfl rfl Pick.here rfl (Env.le.rfl' _) ⟨rfl, rfl, _, rfl, hB2, rfl⟩
  refine WC.condF rfl (beq_eq_false_iff_ne.2 k12) ?_
  refine gz_ ?_
  refine WE.re (H2 := (b6, cel [.int .i64 k, .int .i64 0, .int .u64 (a.n : Int), noStr, nilS] 117) :: H) sn_ ?_
  exact end_c tab_ok rfl rfl rfl rfl Pick.here rfl (Env.le.rfl' _) ⟨rfl, rfl, _, rfl, hB2, by simp [valC, k1, k11, k2, k4, k3, k6, k5, k10, k12]⟩
/-- Numbers, as cells. -/
def IntC (n : Nat) (c : List Value) : Prop := c = [.int .i64 (n : Int)]
theorem IntC.len {n : Nat} {c : List Value} (h : IntC n c) : c.length = 1 := by rw [h]; rfl
/-- The cells of an attribute that is told. -/
def FldC (Γ : Env) (v : Int) (base : Nat) (a : Att) (c : List Value) : Prop := ∃ vb, Byt Γ vb a.b ∧ c = .int .i64 a.attr :: valV v base a vb
def sibC (nx : Nat) : List Value := [.int .i64 1, .int .i64 10, .int .i64 6, .int .u64 (nx : Int), noStr, nilS]
/-- What is told of an entry: its cells, the blocks of its attributes. -/
def EntC (Γ : Env) (v : Int) (base off nx : Nat) (x : Nod) (c : List Value) (Hs : List Blk) : Prop :=
  (x.tag = 0 ∧ c = [.int .i64 0, .int .i64 0, .bool false, nilS] ∧ Hs = []) ∨
  (x.tag ≠ 0 ∧ ∃ vf cs, c = [.int .i64 (off : Int), .int .i64 x.tag, .bool x.ch, vf] ∧ LisC (FldC Γ v base) x.atts cs ∧ Ow 6 vf ((if x.sib then 1 else 0) + x.atts.length) ((if x.sib then sibC nx else []) ++ cs) Hs)
theorem one_sib (nx : Nat) : ∀ y ∈ sibC nx, y.oneCell' = true := by
  intro y hy; simp only [sibC, List.mem_cons, List.not_mem_nil, or_false] at hy
  rcases hy with rfl | rfl | rfl | rfl | rfl | rfl <;> rfl
theorem valC_shape (c : Int) (base : Nat) (a : Att) (ab : Option Addr) (n cb : Nat) : ∃ kk nn st a2 n2 c2, valC c base a (.slice ab n cb) = [.int .i64 c, .int .i64 kk, .int .u64 nn, .string st, .slice a2 n2 c2] := by
  unfold valC noStr nilS; repeat' split
  all_goals exact ⟨_, _, _, _, _, _, rfl⟩
theorem one_fld (z1 z2 z3 z4 : Int) (st : ByteArray) (a2 : Option Addr) (n2 c2 : Nat) : ∀ y ∈ [Value.int .i64 z1, .int .i64 z2, .int .i64 z3, .int .u64 z4, .string st, .slice a2 n2 c2], y.oneCell' = true := by
  intro y hy; simp only [List.mem_cons, List.not_mem_nil, or_false] at hy
  rcases hy with rfl | rfl | rfl | rfl | rfl | rfl <;> rfl
theorem specEntry_ok {Γ : Env} {H : List Blk} {u : Uni} {c : List Value} {x : Nod} {i base : Nat} {vp : Value} {pl : List Nat} {off nx : Nat}
   (hu : UniC Γ u c) (hn : u.nods.length ≤ 65535) (hx : u.nods[i]? = some x) (hxt : NodT x) (hb : base < 9223372036854775808)
   (hp : Arr Γ IntC vp pl) (ho : pl[i]? = some off) (hx2 : pl[aft u.nods i]? = some nx) (hnx : nx < 9223372036854775808) :
   Spc Tryz.prog 55 #[.agg c.toArray, .int .i64 (base : Int), vp, .int .i64 (i : Int)] Γ H (fun v Γ' H' => Γ = Γ' ∧ ∃ cs Hs, v = .agg cs.toArray ∧ EntC Γ u.vers base off nx x cs Hs ∧ H' = Hs ++ H) := by
  have hU := hu
  obtain ⟨vn, rfl, hAn⟩ := hu
  have hAr := hAn
  obtain ⟨an, capn, cellsn, rfl, hcapn, hAn, hLn⟩ := hAn
  obtain ⟨bn, on, cx, rfl, hX, hcx⟩ := elemA hAn hLn (fun _ _ h => h.len) (w := 4) (by decide) hx
  obtain ⟨va, rfl, a0, cap0, cells0, rfl, hcap0, hA0, hL0⟩ := hX
  obtain ⟨ap, capp, cellsp, rfl, hcapp, hAp, hLp⟩ := hp
  obtain ⟨bp, op, c1, rfl, hC1, hc1⟩ := elemA hAp hLp (fun _ _ h => h.len) (w := 1) (by decide) ho
  cases hC1
  have hil : i < u.nods.length := (List.getElem?_eq_some_iff.1 hx).1
  have hpl1 : i < pl.length := (List.getElem?_eq_some_iff.1 ho).1
  have hpl2 : aft u.nods i < pl.length := (List.getElem?_eq_some_iff.1 hx2).1
  have hcell1 : Γ.cell bp (op + ((i : Nat) : Int).toNat * 1) = some (.int .i64 (off : Int)) := cellsAt_get hc1 0 _ rfl
  have hcell2 : Γ.cell bp (op + ((aft u.nods i : Nat) : Int).toNat * 1) = some (.int .i64 (nx : Int)) := by
    obtain ⟨b', o', c2, e2, hC2, hc2⟩ := elemA hAp hLp (fun _ _ h => h.len) (w := 1) (by decide) hx2
    injection e2 with e2; injection e2 with e2 e3; subst e2 e3
    cases hC2
    exact cellsAt_get hc2 0 _ rfl
  refine Spc.body4 Tryz.func55 rfl Tryz.ntmps55 rfl ?_
  refine WC.seq ?_
  refine WC.region ?_
  (refine WL.box rfl spi_ rfl ?_; intro b4)
  (refine WL.alloc tab_ok rfl rfl ?_; intro b8)
  refine gz_ ?_
  (refine WL.alloc tab_ok rfl rfl ?_; intro b9)
  refine gz_ ?_
  by_cases ht : x.tag = 0
  · refine WC.condT rfl (beq_iff_eq.2 ht) ?_
    refine gz_ ?_
    refine WE.re (H2 := (b8, cel [.int .i64 0, .int .i64 0, .bool false, nilS] 45) :: H) sn_ ?_
    exact end_c tab_ok rfl rfl rfl rfl Pick.here rfl (Env.le.rfl' _) ⟨rfl, _, [], rfl, .inl ⟨ht, rfl, rfl⟩, rfl⟩
  refine WC.condF rfl (beq_eq_false_iff_ne.2 ht) ?_
  refine gz_ ?_
  refine WC.draw 10 (.take 0 (.take 1 (.take 2 (.take 3 (.take 4 (.take 5 (.take 6 (.take 7 (.take 8 (.one 9 (.one 10 .done))))))))))) ((b9, _) :: []) mixed (by (repeat (first | exact trivial | refine ⟨⟨_, pk_⟩, ?_⟩ | exact subH_self _ | apply subH_cons)); (first | done | fail)) (by decide +kernel) ?_
  refine dz_ ?_
  (refine WL.alloc tab_ok rfl rfl ?_; intro b10)
  refine dz_ ?_
  refine WC.seq ?_
  refine WC.cutM (fun R' Γ' H' => ∃ vf Hs, R' = [(1, .int .i64 (base : Int)), (4, .pointer (some ⟨b4, 0, none⟩)), (8, .pointer (some ⟨b8, 0, none⟩)), (9, .pointer (some ⟨b9, 0, none⟩)), (10, .pointer (some ⟨b10, 0, none⟩))] ∧ Γ = Γ' ∧ Ow 6 vf (if x.sib then 1 else 0) (if x.sib then sibC nx else []) Hs ∧
     H' = Hs ++ ((b10, cel [.int .i64 (off : Int), .int .i64 x.tag, .bool x.ch, vf] 45) :: (b9, cel [.int .i64 x.tag, .bool x.ch, .bool x.sib, .slice a0 x.atts.length cap0] 61) :: (b8, cel [.int .i64 0, .int .i64 0, .bool false, nilS] 45) :: (b4, cel [.int .i64 u.vers, .bool u.wide, .int .i64 u.size, .slice (some ⟨bn, on, none⟩) u.nods.length capn] 58) :: H)) ?_ ?_
  · refine gz_ ?_
    cases hs : x.sib with
    | false =>
      refine gz_ ?_
      exact WE.mid ⟨nilS, [], rfl, rfl, Ow.nil, rfl⟩ sr_ sn_
    | true =>
      refine gz_ ?_
      refine WL.call rfl Tryz.call43 rfl rfl (by exact (After_ok hAr (by omega) (Nat.le_of_lt hil))) ?_
      rintro _ _ _ - ⟨rfl, rfl, rfl⟩
      refine gz_ ?_
      rw [show IntKind.u64.wrap (nx : Int) = (nx : Int) from w_u64 (by omega) (by omega)]
      (refine WL.alloc tab_ok rfl rfl ?_; intro b11)
      refine gz_ ?_
      (refine WL.lit tab_ok rfl rfl rfl rfl rfl rfl rfl spi_ rfl ?_; intro bl)
      refine gz_ ?_
      refine WL.append tab_ok rfl rfl rfl rfl rfl rfl rfl rfl (Ow.nil (s := 6)) (Tk.here (Hs := [])) ((Ow.lit (s := 6) (b := bl) (k := 1) (l := sibC nx) (T := 119) rfl).src tab_ok rfl (by ((repeat (first | apply Tk.one | apply Tk.skip | apply Tk.over)); (first | done | fail))) (one_sib nx)) (by omega) (by omega) (fun v2 Hs2 how2 => ?_)
      obtain ⟨a9, c9, rfl⟩ := Ow.shape how2
      refine gz_ ?_
      exact WE.mid ⟨_, Hs2, rfl, rfl, how2, rfl⟩ sr_ sn_
  rintro _ _ _ ⟨vf, Hs, rfl, rfl, how, rfl⟩
  have hsk : (if x.sib then 1 else 0) ≤ 1 := by split <;> omega
  have hna := hxt.na
  refine gz_ ?_
  refine WC.loopE (fun m R' Γ' H' => ∃ k vf cs Hs, R' = [(1, .int .i64 (base : Int)), (4, .pointer (some ⟨b4, 0, none⟩)), (8, .pointer (some ⟨b8, 0, none⟩)), (10, .pointer (some ⟨b10, 0, none⟩)), (51, .slice a0 x.atts.length cap0), (52, .int .i64 (x.atts.length : Int)), (53, .int .i64 ((k : Nat) : Int))] ∧ Γ = Γ' ∧
     H' = Hs ++ ((b10, cel [.int .i64 (off : Int), .int .i64 x.tag, .bool x.ch, vf] 45) :: (b8, cel [.int .i64 0, .int .i64 0, .bool false, nilS] 45) :: (b4, cel [.int .i64 u.vers, .bool u.wide, .int .i64 u.size, .slice (some ⟨bn, on, none⟩) u.nods.length capn] 58) :: H) ∧ m = x.atts.length - k ∧ k ≤ x.atts.length ∧
     LisC (FldC Γ u.vers base) (x.atts.take k) cs ∧ Ow 6 vf ((if x.sib then 1 else 0) + k) ((if x.sib then sibC nx else []) ++ cs) Hs)
    ⟨0, vf, [], Hs, rfl, rfl, rfl, rfl, Nat.zero_le _, rfl, by simpa using how⟩ sr_ sn_ ?_
  clear how
  rintro m R' Γ' H' ⟨k, vf, cs, Hs, rfl, rfl, rfl, rfl, hk, hcs, how⟩
  obtain ⟨af, cf, rfl⟩ := Ow.shape how
  rcases Nat.lt_or_ge k x.atts.length with hlt | hge
  case inr =>
    have ek : k = x.atts.length := by omega
    subst ek
    refine gz_ ?_
    refine WC.condF rfl (decide_eq_false (by omega)) ?_
    refine gz_ ?_
    rw [List.take_length] at hcs
    refine WE.re (H2 := (b8, cel [.int .i64 (off : Int), .int .i64 x.tag, .bool x.ch, .slice af ((if x.sib then 1 else 0) + x.atts.length) cf] 45) :: (Hs ++ H)) sn_ ?_
    exact end_c tab_ok rfl rfl rfl rfl Pick.here rfl (Env.le.rfl' _) ⟨rfl, _, Hs, rfl, .inr ⟨ht, _, cs, rfl, hcs, how⟩, rfl⟩
  case inl =>
    obtain ⟨y, hy⟩ : ∃ y, x.atts[k]? = some y := ⟨_, List.getElem?_eq_getElem hlt⟩
    obtain ⟨bb, oo, c, rfl, hP, hc⟩ := elemA hA0 hL0 (fun _ _ h => h.len) (w := 6) (by decide) hy
    have hP2 := hP
    obtain ⟨vb, rfl, hB, hyn⟩ := hP
    have hB2 := hB
    obtain ⟨ab, cb, rfl, -, -⟩ := hB
    have hwi : IntKind.i64.wrap ((k : Int) + 1) = (k : Int) + 1 := w_i64 (by omega) (by omega)
    have htk : x.atts.take (k + 1) = x.atts.take k ++ [y] := by rw [List.take_add_one, hy]; rfl
    refine gz_ ?_
    refine WC.condT rfl (by first | rfl | exact decide_eq_true (by omega) | (simp; (first | done | fail)) | (simp; omega)) ?_
    refine gz_ ?_
    (refine WL.alloc tab_ok rfl rfl ?_; intro b13)
    refine gz_ ?_
    refine WC.draw 12 (.take 0 (.take 1 (.take 2 (.take 3 (.take 4 (.take 5 (.take 6 (.one 7 (.take 8 (.one 9 (.one 10 (.take 11 (.one 12 .done))))))))))))) ((b4, _) :: (b10, _) :: (b13, _) :: []) mixed (by (repeat (first | exact trivial | refine ⟨⟨_, pk_⟩, ?_⟩ | exact subH_self _ | apply subH_cons)); (first | done | fail)) (by decide +kernel) ?_
    refine dz_ ?_
    refine WL.call rfl Tryz.call81 rfl rfl (by exact (valueOf_ok (a := y) hP2 hb)) ?_
    rintro r _ _ - ⟨rfl, rfl, vb2, e2, -, rfl⟩
    injection e2 with _ e2; injection e2 with _ e2; injection e2 with _ e2; injection e2 with _ e2; injection e2 with _ e2; injection e2 with e2; subst e2
    obtain ⟨kk, nn, st, a2, n2, c2, hv⟩ := valC_shape (clsOf u.vers y.attr y.form).1 base y ab y.b.length cb
    have hv2 : valV u.vers base y (.slice ab y.b.length cb) = [.int .i64 (clsOf u.vers y.attr y.form).1, .int .i64 kk, .int .u64 nn, .string st, .slice a2 n2 c2] := hv
    rw [hv2]
    refine dz_ ?_
    (refine WL.lit tab_ok rfl rfl rfl rfl rfl rfl rfl spi_ rfl ?_; intro bl)
    refine dz_ ?_
    refine WL.append tab_ok rfl rfl rfl rfl rfl rfl rfl rfl how tk_ ((Ow.lit (s := 6) (b := bl) (k := 1) (l := [.int .i64 y.attr, .int .i64 (clsOf u.vers y.attr y.form).1, .int .i64 kk, .int .u64 nn, .string st, .slice a2 n2 c2]) (T := 119) rfl).src tab_ok rfl (by ((repeat (first | apply Tk.one | apply Tk.skip | apply Tk.over)); (first | done | fail))) (one_fld _ _ _ _ _ _ _ _)) (by omega) (by omega) (fun v2 Hs2 how2 => ?_)
    obtain ⟨a9, c9, rfl⟩ := Ow.shape how2
    refine dz_ ?_
    refine gz_ ?_
    refine WE.again ⟨k + 1, _, cs ++ [.int .i64 y.attr, .int .i64 (clsOf u.vers y.attr y.form).1, .int .i64 kk, .int .u64 nn, .string st, .slice a2 n2 c2], Hs2, rfl, rfl, rfl, rfl, hlt, ?_, ?_⟩ (by omega) ⟨rfl, rfl, rfl, rfl, rfl, rfl, congrArg (fun z => some (Value.int .i64 z)) hwi, trivial⟩ sn_
    · rw [htk]; exact hcs.append (LisC.one ⟨_, hB2, by rw [hv2]⟩)
    · rw [List.append_assoc] at how2; exact how2
end Go.Proofs.YtdplhbmoidepgaaGreatDoor
