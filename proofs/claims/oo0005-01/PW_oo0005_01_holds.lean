import PyProof.Rows.All
import Wide.All
import OpenK.AllK
import Wide.FinOn
import Lean
import PySem.Challenge.RW_oo0005_01
open PySem PySem.W PyProof.Rows
set_option Elab.async false
section
namespace Mine
set_option maxRecDepth 100000 in
set_option maxHeartbeats 8000000 in
open_top hd for PySem.Challenge.rw_oo0005_01
end Mine
end
section
namespace Mine
def val (o : Nat) (ns : List Int) : Nat := ns.foldl (fun a v => a * 2 ^ o + v.toNat) 0
def grp (n V T j : Nat) : Int := ((V / 2 ^ (T - n * (j + 1)) % 2 ^ n : Nat) : Int)
def fulls (o n : Nat) (ns : List Int) : List Int := (List.range (o * ns.length / n)).map (grp n (val o ns) (o * ns.length))
def lastG (o n : Nat) (ns : List Int) : Int := ((val o ns * 2 ^ (n - o * ns.length % n) % 2 ^ n : Nat) : Int)
def conv (o n : Nat) (ns : List Int) : List Int := fulls o n ns ++ (if o * ns.length % n = 0 then [] else [lastG o n ns])
def PInv (old new : Int) (pre : List Int) (acc bits : Int) (ret : List Int) : Prop :=
  acc = ((val old.toNat pre % 2 ^ (old.toNat + new.toNat - 1) : Nat) : Int) ∧ bits = ((old.toNat * pre.length % new.toNat : Nat) : Int) ∧ ret = fulls old.toNat new.toNat pre
def PW (old new : Int) (pre : List Int) (acc bits : Int) (ret : List Int) : Prop :=
  0 ≤ acc ∧ acc < 32768 ∧ 0 ≤ bits ∧ bits < new ∧ ret.length ≤ 32 ∧ PInv old new pre acc bits ret
def gAt (new acc b : Int) : Int := Builtin.bitAnd (acc.fdiv (2 ^ b.toNat)) (1 * 2 ^ new.toNat - 1)
def WInv (new acc b0 : Int) (r0 : List Int) (bits : Int) (ret : List Int) : Prop :=
  0 ≤ bits ∧ bits ≤ b0 ∧ (ret.length : Int) ≤ r0.length + (b0 - bits) ∧ ∃ i : Nat, bits = b0 - new * i ∧ ret = r0 ++ (List.range i).map fun j : Nat => gAt new acc (b0 - new * (j + 1))
theorem pw_start {old new : Int} (hn : 1 ≤ new) : PW old new [] 0 0 [] := by
  refine ⟨by omega, by omega, by omega, by omega, by simp, ?_, ?_, ?_⟩
  · simp [val]
  · simp
  · simp [fulls]
theorem ww_start {new acc b : Int} {r : List Int} (h : 0 ≤ b) : WInv new acc b r b r := ⟨h, Int.le_refl _, by omega, 0, by simp, by simp⟩
theorem ww_step {new acc b0 b : Int} {r0 r : List Int} (hn : 1 ≤ new) (h : WInv new acc b0 r0 b r) (hb : b ≥ new) :
    WInv new acc b0 r0 (b - new) (r ++ [Builtin.bitAnd (acc.fdiv (2 ^ (b - new).toNat)) (1 * 2 ^ new.toNat - 1)]) := by
  obtain ⟨h0, h1, hl, i, hi, hr⟩ := h
  have e : b - new = b0 - new * (i + 1) := by rw [Int.mul_add, Int.mul_one]; omega
  refine ⟨by omega, by omega, by simp only [List.length_append, List.length_cons, List.length_nil]; omega, i + 1, by rw [e]; simp, ?_⟩
  rw [List.range_succ, List.map_append, ← List.append_assoc, ← hr, e]
  rfl
end Mine
end
section
namespace Mine

theorem natcast_pow2 (k : Nat) : ((2 ^ k : Nat) : Int) = (2 : Int) ^ k := kbt_cast k

theorem mask_nat (x k : Nat) : Builtin.bitAnd (x : Int) (1 * 2 ^ k - 1) = ((x % 2 ^ k : Nat) : Int) := by
  rw [Int.one_mul, kbt_mask, Int.natCast_emod, natcast_pow2]

theorem or_low (a v o : Nat) (hv : v < 2 ^ o) : Builtin.bitOr ((a : Int) * 2 ^ o) (v : Int) = ((a * 2 ^ o + v : Nat) : Int) := by
  have h1 : ((a : Int) * 2 ^ o) = ((a * 2 ^ o : Nat) : Int) := by rw [Int.natCast_mul, natcast_pow2]
  rw [h1, bitOr_and, bitAnd_pp (by omega) (by omega), Int.toNat_natCast, Int.toNat_natCast]
  have h2 : (a * 2 ^ o) &&& v = 0 := by
    have h3 := Nat.two_pow_add_eq_or_of_lt hv a
    apply Nat.eq_of_testBit_eq
    intro i
    simp only [Nat.testBit_and, Nat.zero_testBit, Nat.testBit_mul_two_pow]
    by_cases hi : o ≤ i
    · rw [Nat.testBit_lt_two_pow (Nat.lt_of_lt_of_le hv (Nat.pow_le_pow_right (by decide) hi))]; simp
    · simp [hi]
  rw [h2]
  omega

theorem shift_mask (V e n M : Nat) (h : e + n ≤ M) : V % 2 ^ M / 2 ^ e % 2 ^ n = V / 2 ^ e % 2 ^ n := by
  apply Nat.eq_of_testBit_eq
  intro i
  simp only [Nat.testBit_mod_two_pow, Nat.testBit_div_two_pow]
  by_cases hi : i < n
  · have : i + e < M := by omega
    simp [hi, this]
  · simp [hi]

theorem fdiv_nat (x k : Nat) : (x : Int).fdiv (2 ^ k) = ((x / 2 ^ k : Nat) : Int) := by
  rw [Int.fdiv_eq_ediv_of_nonneg _ (Int.le_of_lt (kbt_pos k)), ← natcast_pow2, Int.natCast_ediv]

theorem val_snoc (o : Nat) (pre : List Int) (v : Int) : val o (pre ++ [v]) = val o pre * 2 ^ o + v.toNat := by
  simp [val]

theorem grp_more {o n V v T j : Nat} (hv : v < 2 ^ o) (hj : n * (j + 1) ≤ T) : grp n (V * 2 ^ o + v) (T + o) j = grp n V T j := by
  unfold grp
  congr 2
  have e : T + o - n * (j + 1) = o + (T - n * (j + 1)) := by omega
  rw [e, Nat.pow_add, ← Nat.div_div_eq_div_mul]
  congr 1
  rw [Nat.mul_comm V, Nat.mul_add_div (Nat.two_pow_pos o), Nat.div_eq_of_lt hv, Nat.add_zero]

theorem fulls_snoc {o n : Nat} {pre : List Int} {v : Int} {i b : Nat} (hn : 1 ≤ n) (h0 : 0 ≤ v) (hv : v < 2 ^ o) (hi : o * pre.length % n + o = n * i + b) (hb : b < n) :
    fulls o n (pre ++ [v]) = fulls o n pre ++ (List.range i).map (fun j : Nat => (((val o pre * 2 ^ o + v.toNat) / 2 ^ (o * pre.length % n + o - n * (j + 1)) % 2 ^ n : Nat) : Int)) ∧ o * (pre ++ [v]).length % n = b := by
  have hvn : v.toNat < 2 ^ o := by have := natcast_pow2 o; omega
  have hT : o * (pre ++ [v]).length = o * pre.length + o := by simp [Nat.mul_add]
  have hd := Nat.div_add_mod (o * pre.length) n
  have e : o * pre.length + o = n * (o * pre.length / n + i) + b := by rw [Nat.mul_add]; omega
  have e1 : (o * pre.length + o) / n = o * pre.length / n + i := by
    rw [e, Nat.mul_add_div (by omega), Nat.div_eq_of_lt hb, Nat.add_zero]
  have e2 : (o * pre.length + o) % n = b := by
    rw [e, Nat.mul_add_mod, Nat.mod_eq_of_lt hb]
  refine ⟨?_, by rw [hT, e2]⟩
  unfold fulls
  rw [hT, e1, List.range_add, List.map_append, val_snoc, List.map_map]
  congr 1
  · apply List.map_congr_left
    intro j hj
    have hj' : j + 1 ≤ o * pre.length / n := List.mem_range.mp hj
    have : n * (j + 1) ≤ n * (o * pre.length / n) := Nat.mul_le_mul_left n hj'
    exact grp_more hvn (by omega)
  · apply List.map_congr_left
    intro j hj
    show grp n _ _ (o * pre.length / n + j) = _
    unfold grp
    have : n * (o * pre.length / n + j + 1) = n * (o * pre.length / n) + n * (j + 1) := by rw [← Nat.mul_add, Nat.add_assoc]
    congr 4
    omega

theorem pw_turn {old new acc bits v b' : Int} {pre ret ret' : List Int} (ho1 : 1 ≤ old) (ho8 : old ≤ 8) (hn1 : 1 ≤ new) (hn8 : new ≤ 8) (hlen : pre.length + 1 ≤ 4) (hv : 0 ≤ v ∧ v < 2 ^ old.toNat)
    (hP : PW old new pre acc bits ret)
    (hW : WInv new (Builtin.bitAnd (Builtin.bitOr (acc * 2 ^ old.toNat) v) (1 * 2 ^ (old + new - 1).toNat - 1)) (bits + old) ret b' ret') (hb : ¬ b' ≥ new) :
    PW old new (pre ++ [v]) (Builtin.bitAnd (Builtin.bitOr (acc * 2 ^ old.toNat) v) (1 * 2 ^ (old + new - 1).toNat - 1)) b' ret' := by
  obtain ⟨-, -, p3, p4, p5, q1, q2, q3⟩ := hP
  have hvn : v.toNat < 2 ^ old.toNat := by have := natcast_pow2 old.toNat; omega
  have hM : (old + new - 1).toNat = old.toNat + new.toNat - 1 := by omega
  have hacc : Builtin.bitAnd (Builtin.bitOr (acc * 2 ^ old.toNat) v) (1 * 2 ^ (old + new - 1).toNat - 1) = ((val old.toNat (pre ++ [v]) % 2 ^ (old.toNat + new.toNat - 1) : Nat) : Int) := by
    have hv' : v = ((v.toNat : Nat) : Int) := by omega
    rw [q1, hM]
    conv => lhs; rw [hv']
    rw [or_low _ _ _ hvn, mask_nat, val_snoc]
    congr 1
    simp [Nat.add_mod, Nat.mul_mod]
  rw [hacc] at hW ⊢
  obtain ⟨w1, w2, w3, i, hi, hr⟩ := hW
  have hn : ((new.toNat : Nat) : Int) = new := by omega
  have ho : ((old.toNat : Nat) : Int) = old := by omega
  have hmi : new * (i : Int) = ((new.toNat * i : Nat) : Int) := by rw [Int.natCast_mul, hn]
  obtain ⟨f1, f2⟩ := fulls_snoc (o := old.toNat) (n := new.toNat) (pre := pre) (v := v) (i := i) (b := b'.toNat) (by omega) hv.1 hv.2 (by omega) (by omega)
  have hret : ret' = fulls old.toNat new.toNat (pre ++ [v]) := by
    rw [f1, hr, q3]
    congr 1
    apply List.map_congr_left
    intro j hj
    have hj' : j + 1 ≤ i := List.mem_range.mp hj
    have hle : new.toNat * (j + 1) ≤ new.toNat * i := Nat.mul_le_mul_left _ hj'
    have hcast : new * ((j : Int) + 1) = ((new.toNat * (j + 1) : Nat) : Int) := by rw [Int.natCast_mul, hn]; rfl
    have hpos : new.toNat * (j + 1) = new.toNat * j + new.toNat := by rw [Nat.mul_add, Nat.mul_one]
    have he : (bits + old - new * ((j : Int) + 1)).toNat = old.toNat * pre.length % new.toNat + old.toNat - new.toNat * (j + 1) := by rw [hcast]; omega
    unfold gAt
    rw [he, fdiv_nat, mask_nat, shift_mask _ _ _ _ (by omega), val_snoc]
  have hlen' : (pre ++ [v]).length = pre.length + 1 := by simp
  have hfl : (fulls old.toNat new.toNat (pre ++ [v])).length ≤ 32 := by
    unfold fulls
    rw [List.length_map, List.length_range, hlen']
    refine Nat.le_trans (Nat.div_le_self _ _) ?_
    exact Nat.le_trans (Nat.mul_le_mul (show old.toNat ≤ 8 by omega) hlen) (by decide)
  have hmod : val old.toNat (pre ++ [v]) % 2 ^ (old.toNat + new.toNat - 1) < 32768 := by
    refine Nat.lt_of_lt_of_le (Nat.mod_lt _ (Nat.two_pow_pos _)) ?_
    exact Nat.pow_le_pow_right (n := 2) (by decide) (show old.toNat + new.toNat - 1 ≤ 15 by omega)
  exact ⟨by omega, by omega, by omega, by omega, by rw [hret]; exact hfl, rfl, by rw [f2]; omega, hret⟩

theorem mask_shift (V k n M : Nat) (h : n ≤ M + k) : V % 2 ^ M * 2 ^ k % 2 ^ n = V * 2 ^ k % 2 ^ n := by
  apply Nat.eq_of_testBit_eq
  intro i
  simp only [Nat.testBit_mod_two_pow, Nat.testBit_mul_two_pow]
  by_cases hi : i < n
  · by_cases hk : k ≤ i
    · have : i - k < M := by omega
      simp [hi, hk, this]
    · simp [hk]
  · simp [hi]
theorem pw_last {old new acc bits : Int} {ns ret : List Int} (ho1 : 1 ≤ old) (hn1 : 1 ≤ new) (hP : PW old new ns acc bits ret) :
    Builtin.bitAnd (acc * 2 ^ (new - bits).toNat) (1 * 2 ^ new.toNat - 1) = lastG old.toNat new.toNat ns := by
  obtain ⟨-, -, p3, p4, p5, q1, q2, q3⟩ := hP
  have e : (new - bits).toNat = new.toNat - old.toNat * ns.length % new.toNat := by omega
  rw [e, q1, ← natcast_pow2, ← Int.natCast_mul, mask_nat]
  unfold lastG
  rw [mask_shift _ _ _ _ (by omega)]
theorem pw_end0 {old new acc bits : Int} {ns ret : List Int} (hP : PW old new ns acc bits ret) (h : bits = 0) : ret = conv old.toNat new.toNat ns := by
  obtain ⟨-, -, p3, p4, p5, q1, q2, q3⟩ := hP
  unfold conv
  rw [if_pos (by omega), List.append_nil, q3]
theorem pw_end1 {old new acc bits : Int} {ns ret : List Int} (ho1 : 1 ≤ old) (hn1 : 1 ≤ new) (hP : PW old new ns acc bits ret) (h : bits ≠ 0) :
    ret ++ [Builtin.bitAnd (acc * 2 ^ (new - bits).toNat) (1 * 2 ^ new.toNat - 1)] = conv old.toNat new.toNat ns := by
  rw [pw_last ho1 hn1 hP]
  obtain ⟨-, -, p3, p4, p5, q1, q2, q3⟩ := hP
  unfold conv
  rw [if_neg (by omega), q3]
theorem pw_bare {old new acc bits : Int} {ns ret : List Int} (hP : PW old new ns acc bits ret) : ret = fulls old.toNat new.toNat ns := hP.2.2.2.2.2.2.2
theorem pw_lt {old new acc bits : Int} {ns ret : List Int} (ho1 : 1 ≤ old) (hP : PW old new ns acc bits ret) (h : bits < old) : old.toNat * ns.length % new.toNat < old.toNat := by
  have := hP.2.2.2.2.2.2.1
  omega
theorem pw_ge {old new acc bits : Int} {ns ret : List Int} (ho1 : 1 ≤ old) (hP : PW old new ns acc bits ret) (h : bits ≥ old) : ¬ old.toNat * ns.length % new.toNat < old.toNat := by
  have := hP.2.2.2.2.2.2.1
  omega
end Mine
end
section
namespace Mine
def Row (o c : Int) (ns : List Int) : Prop := (ns.length : Int) = c ∧ ∀ x ∈ ns, 0 ≤ x ∧ x < 2 ^ o.toNat
def loneL (o c pl : Int) : List Int := List.map (fun k' => if k' = pl.fdiv o then 2 ^ (o - 1 - pl.fmod o).toNat else 0) (rangeKs 0 (c - 0).toNat)
def combL (f : Int → Int → Int) (c : Int) (F S : List Int) : List Int := List.map (fun k' => f (F.getD k'.toNat 0) (S.getD k'.toNat 0)) (rangeKs 0 (c - 0).toNat)

/-! sizes -/
theorem fulls_length (o n : Nat) (ns : List Int) : (fulls o n ns).length = o * ns.length / n := by simp [fulls]
theorem row_T {o c : Int} {ns : List Int} (ho1 : 1 ≤ o) (hr : Row o c ns) : ((o.toNat * ns.length : Nat) : Int) = o * c := by
  rw [Int.natCast_mul, hr.1, Int.toNat_of_nonneg (by omega)]
theorem full_eq {o c n full : Int} {ns : List Int} (ho1 : 1 ≤ o) (hn1 : 1 ≤ n) (hr : Row o c ns) (hfu : full = (o * c).fdiv n) : full.toNat = o.toNat * ns.length / n.toNat := by
  have e : full = ((o.toNat * ns.length / n.toNat : Nat) : Int) := by
    rw [hfu, Int.fdiv_eq_ediv_of_nonneg _ (by omega), Int.natCast_ediv, row_T ho1 hr, Int.toNat_of_nonneg (by omega)]
  rw [e, Int.toNat_natCast]
theorem conv_take {o c n full : Int} {ns : List Int} (ho1 : 1 ≤ o) (hn1 : 1 ≤ n) (hc10 : 1 ≤ c) (hr : Row o c ns) (hfu : full = (o * c).fdiv n) : (conv o.toNat n.toNat ns).take full.toNat = fulls o.toNat n.toNat ns := by
  unfold conv
  rw [full_eq ho1 hn1 hr hfu, ← fulls_length, List.take_left]
theorem size_nat {T m : Nat} (hm : 0 < m) : (T + m - 1) / m = T / m + (if T % m = 0 then 0 else 1) := by
  have hd := Nat.div_add_mod T m
  have hlt := Nat.mod_lt T hm
  generalize T / m = q at *
  generalize T % m = r at *
  subst hd
  by_cases h0 : r = 0
  · rw [if_pos h0, h0, Nat.add_zero, Nat.add_zero, Nat.add_sub_assoc hm, Nat.mul_add_div hm, Nat.div_eq_of_lt (by omega), Nat.add_zero]
  · rw [if_neg h0]
    have e : m * q + r + m - 1 = m * (q + 1) + (r - 1) := by rw [Nat.mul_add, Nat.mul_one]; generalize m * q = z; omega
    rw [e, Nat.mul_add_div hm, Nat.div_eq_of_lt (by omega), Nat.add_zero]
theorem conv_length {o c n size : Int} {ns : List Int} (hr : Row o c ns) (ho1 : 1 ≤ o) (hn1 : 1 ≤ n) (hsz : size = (o * c + n - 1).fdiv n) : ((conv o.toNat n.toNat ns).length : Int) = size := by
  have hT := row_T ho1 hr
  have hn : ((n.toNat : Nat) : Int) = n := by omega
  have e : size = (((o.toNat * ns.length + n.toNat - 1) / n.toNat : Nat) : Int) := by
    rw [hsz, Int.fdiv_eq_ediv_of_nonneg _ (by omega), Int.natCast_ediv, hn]
    congr 1
    omega
  rw [e]
  congr 1
  unfold conv
  rw [List.length_append, fulls_length, size_nat (by omega)]
  by_cases h0 : o.toNat * ns.length % n.toNat = 0
  · rw [if_pos h0, if_pos h0]; rfl
  · rw [if_neg h0, if_neg h0]; rfl
theorem conv_len {o c n size : Int} {ns : List Int} {us : List Value} (hr : Row o c ns) (ho1 : 1 ≤ o) (hn1 : 1 ≤ n) (hc10 : 1 ≤ c) (hsz : size = (o * c + n - 1).fdiv n) (hi0 : IntsAre us (conv o.toNat n.toNat ns)) : ((conv o.toNat n.toNat ns).length : Int) = size := conv_length hr ho1 hn1 hsz
theorem last_zero {o n : Nat} {ns : List Int} (h : o * ns.length % n = 0) : lastG o n ns = 0 := by
  unfold lastG
  rw [h]
  simp
theorem drop_law {o c n full : Int} {X : List Int} (ho1 : 1 ≤ o) (hn1 : 1 ≤ n) (hc10 : 1 ≤ c) (hr : Row o c X) (hfu : full = (o * c).fdiv n) :
    List.map (fun a => a) (List.filter (fun a => a != 0) (List.drop full.toNat (conv o.toNat n.toNat X))) = [] ↔ lastG o.toNat n.toNat X = 0 := by
  unfold conv
  rw [full_eq ho1 hn1 hr hfu, ← fulls_length, List.drop_left]
  by_cases h0 : o.toNat * X.length % n.toNat = 0
  · rw [if_pos h0]
    simp [last_zero h0]
  · rw [if_neg h0]
    by_cases hz : lastG o.toNat n.toNat X = 0 <;> simp [hz]
end Mine
namespace Mine
structure BitOp (f : Int → Int → Int) (g : Nat → Nat → Nat) (b : Bool → Bool → Bool) : Prop where
  cast : ∀ x y : Nat, f (x : Int) (y : Int) = ((g x y : Nat) : Int)
  bit : ∀ x y i, (g x y).testBit i = b (x.testBit i) (y.testBit i)
  b00 : b false false = false
theorem BitOp.lt {f : Int → Int → Int} {g : Nat → Nat → Nat} {b : Bool → Bool → Bool} (h : BitOp f g b) {x y k : Nat} (hx : x < 2 ^ k) (hy : y < 2 ^ k) : g x y < 2 ^ k := by
  apply Nat.lt_pow_two_of_testBit
  intro i hi
  have h1 : x.testBit i = false := Nat.testBit_lt_two_pow (Nat.lt_of_lt_of_le hx (Nat.pow_le_pow_right (by decide) hi))
  have h2 : y.testBit i = false := Nat.testBit_lt_two_pow (Nat.lt_of_lt_of_le hy (Nat.pow_le_pow_right (by decide) hi))
  rw [h.bit, h1, h2, h.b00]
theorem tb_add {a v k : Nat} (hv : v < 2 ^ k) (i : Nat) : (a * 2 ^ k + v).testBit i = if i < k then v.testBit i else a.testBit (i - k) := by
  rw [Nat.mul_comm, Nat.testBit_two_pow_mul_add _ hv]
theorem BitOp.shift {f : Int → Int → Int} {g : Nat → Nat → Nat} {b : Bool → Bool → Bool} (h : BitOp f g b) {x y v w k : Nat} (hv : v < 2 ^ k) (hw : w < 2 ^ k) : g (x * 2 ^ k + v) (y * 2 ^ k + w) = g x y * 2 ^ k + g v w := by
  apply Nat.eq_of_testBit_eq
  intro i
  rw [h.bit, tb_add hv, tb_add hw, tb_add (h.lt hv hw)]
  by_cases hi : i < k
  · rw [if_pos hi, if_pos hi, if_pos hi, h.bit]
  · rw [if_neg hi, if_neg hi, if_neg hi, h.bit]
theorem BitOp.div {f : Int → Int → Int} {g : Nat → Nat → Nat} {b : Bool → Bool → Bool} (h : BitOp f g b) (x y e n : Nat) : g x y / 2 ^ e % 2 ^ n = g (x / 2 ^ e % 2 ^ n) (y / 2 ^ e % 2 ^ n) := by
  apply Nat.eq_of_testBit_eq
  intro i
  rw [h.bit]
  simp only [Nat.testBit_mod_two_pow, Nat.testBit_div_two_pow, h.bit]
  by_cases hi : i < n <;> simp [hi, h.b00]
theorem BitOp.mul {f : Int → Int → Int} {g : Nat → Nat → Nat} {b : Bool → Bool → Bool} (h : BitOp f g b) (x y k n : Nat) : g x y * 2 ^ k % 2 ^ n = g (x * 2 ^ k % 2 ^ n) (y * 2 ^ k % 2 ^ n) := by
  apply Nat.eq_of_testBit_eq
  intro i
  rw [h.bit]
  simp only [Nat.testBit_mod_two_pow, Nat.testBit_mul_two_pow, h.bit]
  by_cases hi : i < n
  · by_cases hk : k ≤ i <;> simp [hi, hk, h.b00]
  · simp [hi, h.b00]
theorem BitOp.zero {f : Int → Int → Int} {g : Nat → Nat → Nat} {b : Bool → Bool → Bool} (h : BitOp f g b) : g 0 0 = 0 := by
  apply Nat.eq_of_testBit_eq
  intro i
  rw [h.bit]
  simp [h.b00]
theorem BitOp.val {f : Int → Int → Int} {g : Nat → Nat → Nat} {b : Bool → Bool → Bool} (h : BitOp f g b) (o : Nat) : ∀ (F S : List Int) (x y : Nat), F.length = S.length → (∀ v ∈ F, 0 ≤ v ∧ v < 2 ^ o) → (∀ v ∈ S, 0 ≤ v ∧ v < 2 ^ o) →
    (List.zipWith f F S).foldl (fun a v => a * 2 ^ o + v.toNat) (g x y) = g (F.foldl (fun a v => a * 2 ^ o + v.toNat) x) (S.foldl (fun a v => a * 2 ^ o + v.toNat) y)
  | [], [], _, _, _, _, _ => rfl
  | p :: F, q :: S, x, y, hl, hF, hS => by
    have hp := hF p List.mem_cons_self
    have hq := hS q List.mem_cons_self
    have hpn : p.toNat < 2 ^ o := by have := natcast_pow2 o; omega
    have hqn : q.toNat < 2 ^ o := by have := natcast_pow2 o; omega
    have e : (f p q).toNat = g p.toNat q.toNat := by
      have := h.cast p.toNat q.toNat
      rw [Int.toNat_of_nonneg hp.1, Int.toNat_of_nonneg hq.1] at this
      rw [this, Int.toNat_natCast]
    rw [List.zipWith_cons_cons, List.foldl_cons, List.foldl_cons, List.foldl_cons, e, ← h.shift hpn hqn]
    exact h.val o F S _ _ (by simpa using hl) (fun v hv => hF v (List.mem_cons_of_mem _ hv)) (fun v hv => hS v (List.mem_cons_of_mem _ hv))
theorem zip_map {f : Int → Int → Int} {α : Type} (u v w : α → Int) (h : ∀ x, w x = f (u x) (v x)) : ∀ l : List α, l.map w = List.zipWith f (l.map u) (l.map v)
  | [] => rfl
  | x :: r => by simp [h x, zip_map u v w h r]
theorem BitOp.conv {f : Int → Int → Int} {g : Nat → Nat → Nat} {b : Bool → Bool → Bool} (h : BitOp f g b) {o n : Nat} {F S : List Int} (hl : F.length = S.length) (hF : ∀ v ∈ F, 0 ≤ v ∧ v < 2 ^ o) (hS : ∀ v ∈ S, 0 ≤ v ∧ v < 2 ^ o) :
    Mine.conv o n (List.zipWith f F S) = List.zipWith f (Mine.conv o n F) (Mine.conv o n S) := by
  have hz : (List.zipWith f F S).length = F.length := by rw [List.length_zipWith, hl, Nat.min_self]
  have hv : Mine.val o (List.zipWith f F S) = g (Mine.val o F) (Mine.val o S) := by
    have := h.val o F S 0 0 hl hF hS
    rw [h.zero] at this
    exact this
  unfold Mine.conv
  rw [List.zipWith_append (by rw [fulls_length, fulls_length, hl]), hz, hl]
  congr 1
  · unfold fulls
    rw [hz, hl, hv]
    refine zip_map _ _ _ (fun j => ?_) _
    unfold grp
    rw [h.cast, ← h.div]
  · by_cases h0 : o * S.length % n = 0
    · rw [if_pos h0, if_pos h0, if_pos h0]; rfl
    · rw [if_neg h0, if_neg h0, if_neg h0]
      unfold lastG
      rw [hz, hl, hv]
      simp only [List.zipWith_cons_cons, List.zipWith_nil_left, h.cast, ← h.mul]
end Mine
namespace Mine
theorem op_and : BitOp Builtin.bitAnd (fun x y => x &&& y) (fun p q => p && q) := ⟨fun x y => by rw [bitAnd_pp (by omega) (by omega), Int.toNat_natCast, Int.toNat_natCast], fun x y i => Nat.testBit_and x y i, rfl⟩
theorem or_cast (x y : Nat) : Builtin.bitOr (x : Int) (y : Int) = ((x ||| y : Nat) : Int) := by
  have h := nat_or_add_and x y
  rw [bitOr_and, op_and.cast]
  omega
theorem op_or : BitOp Builtin.bitOr (fun x y => x ||| y) (fun p q => p || q) := ⟨or_cast, fun x y i => Nat.testBit_or x y i, rfl⟩
theorem xor_add (x y : Nat) : (x ^^^ y) + (x &&& y) = x ||| y := by
  have h := nat_or_add_and (x ^^^ y) (x &&& y)
  have h1 : (x ^^^ y) ||| (x &&& y) = x ||| y := by
    apply Nat.eq_of_testBit_eq
    intro i
    simp only [Nat.testBit_or, Nat.testBit_xor, Nat.testBit_and]
    cases x.testBit i <;> cases y.testBit i <;> rfl
  have h2 : (x ^^^ y) &&& (x &&& y) = 0 := by
    apply Nat.eq_of_testBit_eq
    intro i
    simp only [Nat.zero_testBit, Nat.testBit_xor, Nat.testBit_and]
    cases x.testBit i <;> cases y.testBit i <;> rfl
  rw [h1, h2] at h
  omega
theorem op_xor : BitOp Builtin.bitXor (fun x y => x ^^^ y) (fun p q => p ^^ q) := ⟨fun x y => by
  have h := xor_add x y
  show Builtin.bitOr _ _ - Builtin.bitAnd _ _ = _
  rw [or_cast, op_and.cast]
  omega, fun x y i => Nat.testBit_xor x y i, rfl⟩

theorem combL_zip {f : Int → Int → Int} {c : Int} {F S : List Int} (hF : (F.length : Int) = c) (hS : (S.length : Int) = c) : combL f c F S = List.zipWith f F S := by
  have hn : (c - 0).toNat = F.length := by omega
  have hl : S.length = F.length := by omega
  unfold combL
  apply List.ext_getElem
  · rw [List.length_map, rangeKs_length, hn, List.length_zipWith, hl, Nat.min_self]
  · intro i h1 h2
    have hiF : i < F.length := by rw [List.length_map, rangeKs_length, hn] at h1; exact h1
    have hiS : i < S.length := by omega
    have ek : (rangeKs 0 (c - 0).toNat)[i]'(by rw [rangeKs_length]; omega) = (i : Int) := by simp [rangeKs]
    rw [List.getElem_map, List.getElem_zipWith, ek, Int.toNat_natCast]
    congr 1
    · rw [List.getD_eq_getElem?_getD, List.getElem?_eq_getElem hiF]; rfl
    · rw [List.getD_eq_getElem?_getD, List.getElem?_eq_getElem hiS]; rfl
theorem zip_bnd {f : Int → Int → Int} {g : Nat → Nat → Nat} {b : Bool → Bool → Bool} (h : BitOp f g b) {o : Nat} : ∀ {F S : List Int}, (∀ v ∈ F, 0 ≤ v ∧ v < 2 ^ o) → (∀ v ∈ S, 0 ≤ v ∧ v < 2 ^ o) → ∀ v ∈ List.zipWith f F S, 0 ≤ v ∧ v < 2 ^ o
  | [], _, _, _, v, hv => by simp at hv
  | _ :: _, [], _, _, v, hv => by simp at hv
  | p :: F, q :: S, hF, hS, v, hv => by
    rw [List.zipWith_cons_cons] at hv
    rcases List.mem_cons.mp hv with rfl | hv
    · have hp := hF p List.mem_cons_self
      have hq := hS q List.mem_cons_self
      have hc := natcast_pow2 o
      have e := h.cast p.toNat q.toNat
      rw [Int.toNat_of_nonneg hp.1, Int.toNat_of_nonneg hq.1] at e
      have hlt := h.lt (x := p.toNat) (y := q.toNat) (k := o) (by omega) (by omega)
      rw [e]
      omega
    · exact zip_bnd h (fun v hv => hF v (List.mem_cons_of_mem _ hv)) (fun v hv => hS v (List.mem_cons_of_mem _ hv)) v hv
theorem comb_row {f : Int → Int → Int} {g : Nat → Nat → Nat} {b : Bool → Bool → Bool} (h : BitOp f g b) {o c : Int} {F S : List Int} (hF : Row o c F) (hS : Row o c S) : Row o c (combL f c F S) := by
  rw [combL_zip hF.1 hS.1]
  refine ⟨?_, zip_bnd h hF.2 hS.2⟩
  rw [List.length_zipWith]
  have h1 := hF.1
  have h2 := hS.1
  omega
theorem comb_law {f : Int → Int → Int} {g : Nat → Nat → Nat} {b : Bool → Bool → Bool} (h : BitOp f g b) {o c n size : Int} {F S xs : List Int} (hx : xs = combL f c F S) (ho1 : 1 ≤ o) (hn1 : 1 ≤ n) (hc1 : 1 ≤ c) (hsz : size = (o * c + n - 1).fdiv n) (hF : Row o c F) (hS : Row o c S) :
    conv o.toNat n.toNat xs = combL f size (conv o.toNat n.toNat F) (conv o.toNat n.toNat S) := by
  have hl : F.length = S.length := by have := hF.1; have := hS.1; omega
  rw [hx, combL_zip hF.1 hS.1, h.conv hl hF.2 hS.2, combL_zip]
  · exact conv_length hF ho1 hn1 hsz
  · exact conv_length hS ho1 hn1 hsz
theorem comb_and {o c : Int} {F S : List Int} (ho10 : 1 ≤ o) (ho80 : o ≤ 8) (hc10 : 1 ≤ c) (hF : Row o c F) (hS : Row o c S) : Row o c (combL Builtin.bitAnd c F S) := comb_row op_and hF hS
theorem comb_or {o c : Int} {F S : List Int} (ho10 : 1 ≤ o) (ho80 : o ≤ 8) (hc10 : 1 ≤ c) (hF : Row o c F) (hS : Row o c S) : Row o c (combL Builtin.bitOr c F S) := comb_row op_or hF hS
theorem comb_xor {o c : Int} {F S : List Int} (ho10 : 1 ≤ o) (ho80 : o ≤ 8) (hc10 : 1 ≤ c) (hF : Row o c F) (hS : Row o c S) : Row o c (combL Builtin.bitXor c F S) := comb_row op_xor hF hS
theorem law_and {o c n size : Int} {F S xs : List Int} (hx : xs = combL Builtin.bitAnd c F S) (ho1 : 1 ≤ o) (ho80 : o ≤ 8) (hn1 : 1 ≤ n) (hc1 : 1 ≤ c) (hsz : size = (o * c + n - 1).fdiv n) (hF : Row o c F) (hS : Row o c S) :
    conv o.toNat n.toNat xs = combL Builtin.bitAnd size (conv o.toNat n.toNat F) (conv o.toNat n.toNat S) := comb_law op_and hx ho1 hn1 hc1 hsz hF hS
theorem law_or {o c n size : Int} {F S xs : List Int} (hx : xs = combL Builtin.bitOr c F S) (ho1 : 1 ≤ o) (ho80 : o ≤ 8) (hn1 : 1 ≤ n) (hc1 : 1 ≤ c) (hsz : size = (o * c + n - 1).fdiv n) (hF : Row o c F) (hS : Row o c S) :
    conv o.toNat n.toNat xs = combL Builtin.bitOr size (conv o.toNat n.toNat F) (conv o.toNat n.toNat S) := comb_law op_or hx ho1 hn1 hc1 hsz hF hS
theorem law_xor {o c n size : Int} {F S xs : List Int} (hx : xs = combL Builtin.bitXor c F S) (ho1 : 1 ≤ o) (ho80 : o ≤ 8) (hn1 : 1 ≤ n) (hc1 : 1 ≤ c) (hsz : size = (o * c + n - 1).fdiv n) (hF : Row o c F) (hS : Row o c S) :
    conv o.toNat n.toNat xs = combL Builtin.bitXor size (conv o.toNat n.toNat F) (conv o.toNat n.toNat S) := comb_law op_xor hx ho1 hn1 hc1 hsz hF hS
end Mine
end
section
namespace Mine
def loneN (O C P : Nat) : List Int := (List.range C).map fun k => if k = P / O then ((2 ^ (O - 1 - P % O) : Nat) : Int) else 0
theorem lone_nat {o c pl : Int} (ho1 : 1 ≤ o) (hp0 : 0 ≤ pl) : loneL o c pl = loneN o.toNat c.toNat pl.toNat := by
  have hO : ((o.toNat : Nat) : Int) = o := by omega
  have hP : ((pl.toNat : Nat) : Int) = pl := by omega
  have hd : pl.fdiv o = ((pl.toNat / o.toNat : Nat) : Int) := by rw [Int.fdiv_eq_ediv_of_nonneg _ (by omega), Int.natCast_ediv, hO, hP]
  have hm : pl.fmod o = ((pl.toNat % o.toNat : Nat) : Int) := by rw [Int.fmod_eq_emod_of_nonneg _ (by omega), Int.natCast_emod, hO, hP]
  have hlt : pl.toNat % o.toNat < o.toNat := Nat.mod_lt _ (by omega)
  unfold loneL loneN rangeKs
  rw [List.map_map, show (c - 0).toNat = c.toNat by omega]
  apply List.map_congr_left
  intro k _
  show (if (0 : Int) + (k : Int) = pl.fdiv o then (2 : Int) ^ (o - 1 - pl.fmod o).toNat else 0) = _
  have e : (o - 1 - pl.fmod o).toNat = o.toNat - 1 - pl.toNat % o.toNat := by rw [hm]; omega
  rw [e, hd, natcast_pow2]
  by_cases hk : k = pl.toNat / o.toNat
  · rw [if_pos hk, if_pos (by rw [hk]; omega)]
  · rw [if_neg hk, if_neg (by omega)]
theorem loneN_length (O C P : Nat) : (loneN O C P).length = C := by simp [loneN]
theorem loneN_succ (O C P : Nat) : loneN O (C + 1) P = loneN O C P ++ [if C = P / O then ((2 ^ (O - 1 - P % O) : Nat) : Int) else 0] := by
  unfold loneN
  rw [List.range_succ, List.map_append]
  rfl
theorem val_lone {O P : Nat} (hO : 0 < O) : ∀ C : Nat, val O (loneN O C P) = if P < O * C then 2 ^ (O * C - 1 - P) else 0
  | 0 => by simp [loneN, val]
  | C + 1 => by
    have hd := Nat.div_add_mod P O
    have hm := Nat.mod_lt P hO
    rw [loneN_succ, val_snoc, val_lone hO C, Nat.mul_add, Nat.mul_one]
    by_cases h1 : P < O * C
    · have h2 : P / O < C := (Nat.div_lt_iff_lt_mul hO).mpr (by rw [Nat.mul_comm]; exact h1)
      rw [if_pos h1, if_neg (by omega), if_pos (by omega), ← Nat.pow_add]
      show 2 ^ _ + 0 = _
      rw [Nat.add_zero]
      congr 1
      omega
    · rw [if_neg h1]
      by_cases h3 : P < O * C + O
      · have h4 : P / O = C := Nat.div_eq_of_lt_le (by rw [Nat.mul_comm]; omega) (by rw [Nat.add_mul, Nat.one_mul, Nat.mul_comm]; omega)
        rw [if_pos h4.symm, if_pos h3, Int.toNat_natCast, Nat.zero_mul, Nat.zero_add]
        congr 1
        rw [h4] at hd
        omega
      · have h5 : ¬ C = P / O := by
          intro h
          rw [← h] at hd
          omega
        rw [if_neg h5, if_neg h3]
        simp
theorem pow_grp {T P n j : Nat} (hn : 0 < n) (hP : P < T) (hj : n * (j + 1) ≤ T) : grp n (2 ^ (T - 1 - P)) T j = if j = P / n then ((2 ^ (n - 1 - P % n) : Nat) : Int) else 0 := by
  have hd := Nat.div_add_mod P n
  have hm := Nat.mod_lt P hn
  rw [Nat.mul_add, Nat.mul_one] at hj
  unfold grp
  rw [Nat.mul_add, Nat.mul_one]
  by_cases h1 : j = P / n
  · rw [if_pos h1]
    rw [← h1] at hd
    have e : T - 1 - P = (n - 1 - P % n) + (T - (n * j + n)) := by omega
    rw [e, Nat.pow_add, Nat.mul_div_cancel _ (Nat.two_pow_pos _), Nat.mod_eq_of_lt (Nat.pow_lt_pow_right (by decide) (by omega))]
  · rw [if_neg h1]
    rcases Nat.lt_or_gt_of_ne h1 with h2 | h2
    · have h3 : n * (j + 1) ≤ n * (P / n) := Nat.mul_le_mul_left n h2
      rw [Nat.mul_add, Nat.mul_one] at h3
      rw [Nat.div_eq_of_lt (Nat.pow_lt_pow_right (by decide) (by omega))]
      simp
    · have h3 : n * (P / n + 1) ≤ n * j := Nat.mul_le_mul_left n h2
      rw [Nat.mul_add, Nat.mul_one] at h3
      have e : T - 1 - P = (T - 1 - P - (T - (n * j + n)) - n) + n + (T - (n * j + n)) := by omega
      rw [e, Nat.pow_add, Nat.mul_div_cancel _ (Nat.two_pow_pos _), Nat.pow_add, Nat.mul_mod_left]
      rfl
theorem pow_last {T P n : Nat} (hn : 0 < n) (hP : P < T) (h0 : T % n ≠ 0) : (((2 ^ (T - 1 - P)) * 2 ^ (n - T % n) % 2 ^ n : Nat) : Int) = if T / n = P / n then ((2 ^ (n - 1 - P % n) : Nat) : Int) else 0 := by
  have hd := Nat.div_add_mod P n
  have hm := Nat.mod_lt P hn
  have hdT := Nat.div_add_mod T n
  have hmT := Nat.mod_lt T hn
  rw [← Nat.pow_add]
  by_cases h1 : T / n = P / n
  · rw [if_pos h1]
    rw [← h1] at hd
    have e : T - 1 - P + (n - T % n) = n - 1 - P % n := by omega
    rw [e, Nat.mod_eq_of_lt (Nat.pow_lt_pow_right (by decide) (by omega))]
  · rw [if_neg h1]
    have h2 : P / n < T / n := Nat.lt_of_le_of_ne (Nat.div_le_div_right (by omega)) (fun h => h1 h.symm)
    have h3 : n * (P / n + 1) ≤ n * (T / n) := Nat.mul_le_mul_left n h2
    rw [Nat.mul_add, Nat.mul_one] at h3
    have e : T - 1 - P + (n - T % n) = (T - 1 - P + (n - T % n) - n) + n := by omega
    rw [e, Nat.pow_add, Nat.mul_mod_left]
    rfl
theorem loneN_fulls {O C P n : Nat} (hO : 0 < O) (hn : 0 < n) (hP : P < O * C) : fulls O n (loneN O C P) = loneN n (O * C / n) P := by
  unfold fulls
  rw [loneN_length, val_lone hO, if_pos hP]
  unfold loneN
  apply List.map_congr_left
  intro j hj
  have hj' : j + 1 ≤ O * C / n := List.mem_range.mp hj
  have h1 : n * (j + 1) ≤ n * (O * C / n) := Nat.mul_le_mul_left n hj'
  exact pow_grp hn hP (Nat.le_trans h1 (Nat.mul_div_le _ _))
theorem loneN_conv {O C P n : Nat} (hO : 0 < O) (hn : 0 < n) (hP : P < O * C) : conv O n (loneN O C P) = loneN n ((O * C + n - 1) / n) P := by
  unfold conv
  rw [loneN_fulls hO hn hP, loneN_length, size_nat hn]
  by_cases h0 : O * C % n = 0
  · rw [if_pos h0, if_pos h0, List.append_nil, Nat.add_zero]
  · rw [if_neg h0, if_neg h0, loneN_succ]
    unfold lastG
    rw [loneN_length, val_lone hO, if_pos hP, pow_last hn hP h0]
theorem loneN_last {O C P n : Nat} (hO : 0 < O) (hn : 0 < n) (hP : P < O * C) : lastG O n (loneN O C P) = 0 ↔ P < O * C / n * n := by
  have hd := Nat.div_add_mod P n
  have hm := Nat.mod_lt P hn
  have hdT := Nat.div_add_mod (O * C) n
  by_cases h0 : O * C % n = 0
  · rw [last_zero (by rw [loneN_length]; exact h0)]
    have : O * C / n * n = O * C := by rw [Nat.mul_comm]; omega
    rw [this]
    exact ⟨fun _ => hP, fun _ => rfl⟩
  · unfold lastG
    rw [loneN_length, val_lone hO, if_pos hP, pow_last hn hP h0]
    by_cases h1 : O * C / n = P / n
    · rw [if_pos h1, h1]
      constructor
      · intro h
        have hp := Nat.two_pow_pos (n - 1 - P % n)
        omega
      · intro h
        rw [Nat.mul_comm] at h
        omega
    · rw [if_neg h1]
      refine ⟨fun _ => ?_, fun _ => rfl⟩
      have h2 : P / n < O * C / n := Nat.lt_of_le_of_ne (Nat.div_le_div_right (by omega)) (fun h => h1 h.symm)
      exact (Nat.div_lt_iff_lt_mul hn).mp h2
theorem lone_row {o c pl : Int} (ho1 : 1 ≤ o) (ho80 : o ≤ 8) (hc1 : 1 ≤ c) (hp0 : 0 ≤ pl) : Row o c (loneL o c pl) := by
  rw [lone_nat ho1 hp0]
  refine ⟨by rw [loneN_length]; omega, ?_⟩
  intro x hx
  have hc := natcast_pow2 o.toNat
  obtain ⟨k, _, rfl⟩ := List.mem_map.mp hx
  have hp := Nat.two_pow_pos o.toNat
  by_cases hk : k = pl.toNat / o.toNat
  · rw [if_pos hk]
    have : 2 ^ (o.toNat - 1 - pl.toNat % o.toNat) < 2 ^ o.toNat := Nat.pow_lt_pow_right (by decide) (by omega)
    exact ⟨Int.natCast_nonneg _, by rw [← hc]; exact Int.ofNat_lt.mpr this⟩
  · rw [if_neg hk]
    exact ⟨Int.le_refl _, kbt_pos _⟩
theorem pl_lt {o c pl : Int} (ho1 : 1 ≤ o) (hc1 : 1 ≤ c) (hp0 : 0 ≤ pl) (hp1 : pl ≤ o * c - 1) : pl.toNat < o.toNat * c.toNat := by
  have e : ((o.toNat * c.toNat : Nat) : Int) = o * c := by rw [Int.natCast_mul, Int.toNat_of_nonneg (by omega), Int.toNat_of_nonneg (by omega)]
  omega
theorem lone_law {o c n pl size : Int} (ho1 : 1 ≤ o) (ho80 : o ≤ 8) (hn1 : 1 ≤ n) (hc1 : 1 ≤ c) (hp0 : 0 ≤ pl) (hp1 : pl ≤ o * c - 1) (hsz : size = (o * c + n - 1).fdiv n) : conv o.toNat n.toNat (loneL o c pl) = loneL n size pl := by
  rw [lone_nat ho1 hp0, lone_nat hn1 hp0, loneN_conv (by omega) (by omega) (pl_lt ho1 hc1 hp0 hp1)]
  congr 1
  have e : ((o.toNat * c.toNat : Nat) : Int) = o * c := by rw [Int.natCast_mul, Int.toNat_of_nonneg (by omega), Int.toNat_of_nonneg (by omega)]
  have hn : ((n.toNat : Nat) : Int) = n := by omega
  have h1 : size = (((o.toNat * c.toNat + n.toNat - 1) / n.toNat : Nat) : Int) := by
    rw [hsz, Int.fdiv_eq_ediv_of_nonneg _ (by omega), Int.natCast_ediv, hn]
    congr 1
    omega
  rw [h1, Int.toNat_natCast]
theorem lone_last {o c n pl full : Int} (ho1 : 1 ≤ o) (ho80 : o ≤ 8) (hn1 : 1 ≤ n) (hc1 : 1 ≤ c) (hp0 : 0 ≤ pl) (hp1 : pl ≤ o * c - 1) (hfu : full = (o * c).fdiv n) : lastG o.toNat n.toNat (loneL o c pl) = 0 ↔ pl < full * n := by
  rw [lone_nat ho1 hp0, loneN_last (by omega) (by omega) (pl_lt ho1 hc1 hp0 hp1)]
  have e : ((o.toNat * c.toNat : Nat) : Int) = o * c := by rw [Int.natCast_mul, Int.toNat_of_nonneg (by omega), Int.toNat_of_nonneg (by omega)]
  have hn : ((n.toNat : Nat) : Int) = n := by omega
  have h1 : full * n = ((o.toNat * c.toNat / n.toNat * n.toNat : Nat) : Int) := by
    rw [hfu, Int.fdiv_eq_ediv_of_nonneg _ (by omega), Int.natCast_mul, Int.natCast_ediv, hn, e]
  rw [h1]
  omega
end Mine
end
section
namespace Mine
structure CutMark : Prop where
structure BodyMark : Prop where
def ListEnd (h₀ : Heap) (L : Addr) (m : Str → Option Value) (news : List (Addr × Obj)) (P : List Int → Prop) (s : Shared) (v : Value) (s' : Shared) : Prop :=
  ∃ D ws xs n h' tk', v = .ref D ∧ s' = { s with heap := h', toks := tk' } ∧ Fr h₀ L h' m ∧ News h₀ L h' ((D, listOf (List.toArray ws) n) :: news) ∧ AllLt D news ∧ IntsAre ws xs ∧ P xs
theorem cut_list {prog : Program} {w : World} {A : Around} {c : Sem Value} {h₀ : Heap} {L : Addr} {m : Str → Option Value} {news news' : List (Addr × Obj)} {s : Shared} {Q E : Value → Shared → Prop} (P : List Int → Prop)
    (F : Fr h₀ L s.heap m) (N : News h₀ L s.heap news) (hsub : ∀ p ∈ news', p ∈ news)
    (h : CutMark → wpAny (model prog w) A c (ListEnd h₀ L m news' P s) E s)
    (k : ∀ D ws xs n h' tk', Fr h₀ L h' m → News h₀ L h' ((D, listOf (List.toArray ws) n) :: news') → AllLt D news' → IntsAre ws xs → P xs → Q (.ref D) { s with heap := h', toks := tk' }) :
    wpAny (model prog w) A c Q E s := by
  refine wpAny_mono (h ⟨⟩) ?_ (fun _ _ x => x)
  rintro v s' ⟨D, ws, xs, n, h', tk', rfl, rfl, F', N', hl, hi, hp⟩
  exact k D ws xs n h' tk' F' N' hl hi hp
theorem list_end {h₀ : Heap} {L : Addr} {m : Str → Option Value} {news news' : List (Addr × Obj)} {P : List Int → Prop} {s : Shared} {D : Addr} {ws : List Value} {xs : List Int} {n : Nat} {h' : Heap} {tk' : Nat}
    (F : Fr h₀ L h' m) (N : News h₀ L h' news') (hD : (D, listOf (List.toArray ws) n) ∈ news') (hsub : ∀ p ∈ news, p ∈ news') (hl : AllLt D news) (hi : IntsAre ws xs) (hp : P xs) :
    ListEnd h₀ L m news P s (.ref D) { s with heap := h', toks := tk' } :=
  ⟨D, ws, xs, n, h', tk', rfl, rfl, F, fun p hp => (List.mem_cons.mp hp).elim (fun e => N p (e ▸ hD)) (fun h => N p (hsub p h)), hl, hi, hp⟩
theorem off1_ne {D a : Addr} {o : Obj} {news : List (Addr × Obj)} (h : LCg.Off1 D news) (hm : (a, o) ∈ news) : @Ne Nat a D := by
  induction news with
  | nil => exact nomatch hm
  | cons p r ih =>
    rcases List.mem_cons.mp hm with e | e
    · cases e
      exact h.1
    · exact ih h.2 e
theorem off1_mem {D : Addr} : ∀ {l : List (Addr × Obj)}, LCg.Off1 D l → ∀ p ∈ l, @Ne Nat p.1 D
  | [], _, _, h => nomatch h
  | q :: r, x, p, h => by
    rcases List.mem_cons.mp h with rfl | h
    · exact x.1
    · exact off1_mem x.2 p h
theorem off1_of {D : Addr} : ∀ {l : List (Addr × Obj)}, (∀ p ∈ l, @Ne Nat p.1 D) → LCg.Off1 D l
  | [], _ => trivial
  | _ :: _, h => ⟨h _ List.mem_cons_self, off1_of fun p hp => h p (List.mem_cons_of_mem _ hp)⟩
theorem off1_sub {D : Addr} {l r : List (Addr × Obj)} (h : LCg.Off1 D l) (hs : ∀ p ∈ r, p ∈ l) : LCg.Off1 D r := off1_of fun p hp => off1_mem h p (hs p hp)
theorem rng_small4 {c : Int} (h1 : 1 ≤ c) (h2 : c ≤ 4) : Builtin.Range.small 0 c 1 = true := small_one (by omega) (by omega) (by omega) (by omega)
theorem rng_small32 {c : Int} (h1 : 1 ≤ c) (h2 : c ≤ 32) : Builtin.Range.small 0 c 1 = true := small_one (by omega) (by omega) (by omega) (by omega)
theorem rng_line4 {c : Int} (h1 : 1 ≤ c) (h2 : c ≤ 4) : (c - 0).toNat ≤ sizeLine := by rw [sizeLine_eq]; omega
theorem rng_line32 {c : Int} (h1 : 1 ≤ c) (h2 : c ≤ 32) : (c - 0).toNat ≤ sizeLine := by rw [sizeLine_eq]; omega
theorem news_drop2 {h₀ h : Heap} {L : Addr} {a b : Addr × Obj} {r : List (Addr × Obj)} (N : News h₀ L h (a :: b :: r)) : News h₀ L h r := fun p hp => N p (.tail _ (.tail _ hp))
def StEnd (h₀ : Heap) (L : Addr) (m : Str → Option Value) (news : List (Addr × Obj)) (s : Shared) (f : Flow) (s' : Shared) : Prop :=
  ∃ h' tk', f = .next ∧ s' = { s with heap := h', toks := tk' } ∧ Fr h₀ L h' m ∧ News h₀ L h' news
theorem cut_stmt {prog : Program} {w : World} {A : Around} {c : Sem Flow} {h₀ : Heap} {L : Addr} {m : Str → Option Value} {news : List (Addr × Obj)} {s : Shared} {Q : Flow → Shared → Prop} {E : Value → Shared → Prop}
    (hF0 : Fr h₀ L s.heap m) (hN0 : News h₀ L s.heap news)
    (h : CutMark → wpAny (model prog w) A c (StEnd h₀ L m news s) E s)
    (k : ∀ h' tk', Fr h₀ L h' m → News h₀ L h' news → Q .next { s with heap := h', toks := tk' }) :
    wpAny (model prog w) A c Q E s := by
  refine wpAny_mono (h ⟨⟩) ?_ (fun _ _ x => x)
  rintro f s' ⟨h', tk', rfl, rfl, F', N'⟩
  exact k h' tk' F' N'
theorem st_end {h₀ : Heap} {L : Addr} {m : Str → Option Value} {news news' : List (Addr × Obj)} {s : Shared} {h' : Heap} {tk' : Nat}
    (F : Fr h₀ L h' m) (N : News h₀ L h' news') (hsub : ∀ p ∈ news, p ∈ news') : StEnd h₀ L m news s .next { s with heap := h', toks := tk' } :=
  ⟨h', tk', rfl, rfl, F, fun p hp => N p (hsub p hp)⟩
def AsEnd (h₀ : Heap) (L : Addr) (m : Str → Option Value) (x : Str) (news : List (Addr × Obj)) (P : List Int → Prop) (s : Shared) (f : Flow) (s' : Shared) : Prop :=
  ∃ D ws xs n h' tk', f = .next ∧ s' = { s with heap := h', toks := tk' } ∧ Fr h₀ L h' (fun y => if y = x then some (.ref D) else m y) ∧ News h₀ L h' ((D, listOf (List.toArray ws) n) :: news) ∧ LCg.Off1 D news ∧ IntsAre ws xs ∧ P xs
theorem cut_assign {prog : Program} {w : World} {A : Around} {e : PySem.Expr} {p1 p2 : Pos} {env : Env} {x : Str} {h₀ : Heap} {L : Addr} {m : Str → Option Value} {news : List (Addr × Obj)} {s : Shared} {Q : Flow → Shared → Prop} {E : Value → Shared → Prop} (P : List Int → Prop)
    (hF0 : Fr h₀ L s.heap m) (hN0 : News h₀ L s.heap news)
    (h : CutMark → wpAny (model prog w) A (exec (.Assign [.Name x p1] e p2) env) (AsEnd h₀ L m x news P s) E s)
    (k : ∀ D ws xs n h' tk', Fr h₀ L h' (fun y => if y = x then some (.ref D) else m y) → News h₀ L h' ((D, listOf (List.toArray ws) n) :: news) → LCg.Off1 D news → IntsAre ws xs → P xs → Q .next { s with heap := h', toks := tk' }) :
    wpAny (model prog w) A (exec (.Assign [.Name x p1] e p2) env) Q E s := by
  refine wpAny_mono (h ⟨⟩) ?_ (fun _ _ x => x)
  rintro f s' ⟨D, ws, xs, n, h', tk', rfl, rfl, F', N', hl, hi, hp⟩
  exact k D ws xs n h' tk' F' N' hl hi hp
theorem as_end {h₀ : Heap} {L : Addr} {m : Str → Option Value} {x : Str} {news news' : List (Addr × Obj)} {P : List Int → Prop} {s : Shared} {D : Addr} {ws : List Value} {xs : List Int} {n : Nat} {h' : Heap} {tk' : Nat}
    (F : Fr h₀ L h' (fun y => if y = x then some (.ref D) else m y)) (N : News h₀ L h' news') (hD : (D, listOf (List.toArray ws) n) ∈ news') (hsub : ∀ p ∈ news, p ∈ news') (hl : LCg.Off1 D news) (hi : IntsAre ws xs) (hp : P xs) :
    AsEnd h₀ L m x news P s .next { s with heap := h', toks := tk' } :=
  ⟨D, ws, xs, n, h', tk', rfl, rfl, F, fun p hp => (List.mem_cons.mp hp).elim (fun e => N p (e ▸ hD)) (fun h => N p (hsub p h)), hl, hi, hp⟩
def wideNews (news : List (Addr × Obj)) (q1 q2 q3 q4 q5 : Addr) (u1 u2 u3 u4 u5 : List Value) (n1 n2 n3 n4 n5 : Nat) : List (Addr × Obj) :=
  (q5, listOf (List.toArray u5) n5) :: (q4, listOf (List.toArray u4) n4) :: (q3, listOf (List.toArray u3) n3) :: (q2, listOf (List.toArray u2) n2) :: (q1, listOf (List.toArray u1) n1) :: news
def WideEnd (h₀ : Heap) (L : Addr) (m : Str → Option Value) (x : Str) (news : List (Addr × Obj)) (c1 c2 c3 c4 c5 : List Int) (s : Shared) (f : Flow) (s' : Shared) : Prop :=
  ∃ D q1 q2 q3 q4 q5 u1 u2 u3 u4 u5 n n1 n2 n3 n4 n5 h' tk', f = .next ∧ s' = { s with heap := h', toks := tk' } ∧ Fr h₀ L h' (fun y => if y = x then some (.ref D) else m y) ∧
    News h₀ L h' ((D, listOf (List.toArray [.ref q1, .ref q2, .ref q3, .ref q4, .ref q5]) n) :: (q5, listOf (List.toArray u5) n5) :: (q4, listOf (List.toArray u4) n4) :: (q3, listOf (List.toArray u3) n3) :: (q2, listOf (List.toArray u2) n2) :: (q1, listOf (List.toArray u1) n1) :: news) ∧
    LCg.Off1 D ((q5, listOf (List.toArray u5) n5) :: (q4, listOf (List.toArray u4) n4) :: (q3, listOf (List.toArray u3) n3) :: (q2, listOf (List.toArray u2) n2) :: (q1, listOf (List.toArray u1) n1) :: news) ∧
    (AllLt q1 news ∧ AllLt q2 ((q1, listOf (List.toArray u1) n1) :: news) ∧ AllLt q3 ((q2, listOf (List.toArray u2) n2) :: (q1, listOf (List.toArray u1) n1) :: news) ∧ AllLt q4 ((q3, listOf (List.toArray u3) n3) :: (q2, listOf (List.toArray u2) n2) :: (q1, listOf (List.toArray u1) n1) :: news) ∧ AllLt q5 ((q4, listOf (List.toArray u4) n4) :: (q3, listOf (List.toArray u3) n3) :: (q2, listOf (List.toArray u2) n2) :: (q1, listOf (List.toArray u1) n1) :: news)) ∧
    IntsAre u1 c1 ∧ IntsAre u2 c2 ∧ IntsAre u3 c3 ∧ IntsAre u4 c4 ∧ IntsAre u5 c5
theorem cut_wide {prog : Program} {w : World} {A : Around} {e : PySem.Expr} {p1 p2 : Pos} {env : Env} {x : Str} {h₀ : Heap} {L : Addr} {m : Str → Option Value} {news : List (Addr × Obj)} {s : Shared} {Q : Flow → Shared → Prop} {E : Value → Shared → Prop} (c1 c2 c3 c4 c5 : List Int)
    (hF0 : Fr h₀ L s.heap m) (hN0 : News h₀ L s.heap news)
    (h : CutMark → wpAny (model prog w) A (exec (.Assign [.Name x p1] e p2) env) (WideEnd h₀ L m x news c1 c2 c3 c4 c5 s) E s)
    (k : ∀ D q1 q2 q3 q4 q5 u1 u2 u3 u4 u5 n n1 n2 n3 n4 n5 h' tk', Fr h₀ L h' (fun y => if y = x then some (.ref D) else m y) →
      News h₀ L h' ((D, listOf (List.toArray [.ref q1, .ref q2, .ref q3, .ref q4, .ref q5]) n) :: (q5, listOf (List.toArray u5) n5) :: (q4, listOf (List.toArray u4) n4) :: (q3, listOf (List.toArray u3) n3) :: (q2, listOf (List.toArray u2) n2) :: (q1, listOf (List.toArray u1) n1) :: news) →
      LCg.Off1 D ((q5, listOf (List.toArray u5) n5) :: (q4, listOf (List.toArray u4) n4) :: (q3, listOf (List.toArray u3) n3) :: (q2, listOf (List.toArray u2) n2) :: (q1, listOf (List.toArray u1) n1) :: news) →
      (AllLt q1 news ∧ AllLt q2 ((q1, listOf (List.toArray u1) n1) :: news) ∧ AllLt q3 ((q2, listOf (List.toArray u2) n2) :: (q1, listOf (List.toArray u1) n1) :: news) ∧ AllLt q4 ((q3, listOf (List.toArray u3) n3) :: (q2, listOf (List.toArray u2) n2) :: (q1, listOf (List.toArray u1) n1) :: news) ∧ AllLt q5 ((q4, listOf (List.toArray u4) n4) :: (q3, listOf (List.toArray u3) n3) :: (q2, listOf (List.toArray u2) n2) :: (q1, listOf (List.toArray u1) n1) :: news)) →
      IntsAre u1 c1 → IntsAre u2 c2 → IntsAre u3 c3 → IntsAre u4 c4 → IntsAre u5 c5 → Q .next { s with heap := h', toks := tk' }) :
    wpAny (model prog w) A (exec (.Assign [.Name x p1] e p2) env) Q E s := by
  refine wpAny_mono (h ⟨⟩) ?_ (fun _ _ x => x)
  rintro f s' ⟨D, q1, q2, q3, q4, q5, u1, u2, u3, u4, u5, n, n1, n2, n3, n4, n5, h', tk', rfl, rfl, F', N', hl, ha, i1, i2, i3, i4, i5⟩
  exact k D q1 q2 q3 q4 q5 u1 u2 u3 u4 u5 n n1 n2 n3 n4 n5 h' tk' F' N' hl ha i1 i2 i3 i4 i5
theorem wide_end {h₀ : Heap} {L : Addr} {m : Str → Option Value} {x : Str} {news news' : List (Addr × Obj)} {c1 c2 c3 c4 c5 : List Int} {s : Shared} {D q1 q2 q3 q4 q5 : Addr} {u1 u2 u3 u4 u5 : List Value} {n n1 n2 n3 n4 n5 : Nat} {h' : Heap} {tk' : Nat}
    (F : Fr h₀ L h' (fun y => if y = x then some (.ref D) else m y)) (N : News h₀ L h' news')
    (hs : ∀ p ∈ ((D, listOf (List.toArray [.ref q1, .ref q2, .ref q3, .ref q4, .ref q5]) n) :: (q5, listOf (List.toArray u5) n5) :: (q4, listOf (List.toArray u4) n4) :: (q3, listOf (List.toArray u3) n3) :: (q2, listOf (List.toArray u2) n2) :: (q1, listOf (List.toArray u1) n1) :: news), p ∈ news')
    (hl : LCg.Off1 D ((q5, listOf (List.toArray u5) n5) :: (q4, listOf (List.toArray u4) n4) :: (q3, listOf (List.toArray u3) n3) :: (q2, listOf (List.toArray u2) n2) :: (q1, listOf (List.toArray u1) n1) :: news))
    (ha : AllLt q1 news ∧ AllLt q2 ((q1, listOf (List.toArray u1) n1) :: news) ∧ AllLt q3 ((q2, listOf (List.toArray u2) n2) :: (q1, listOf (List.toArray u1) n1) :: news) ∧ AllLt q4 ((q3, listOf (List.toArray u3) n3) :: (q2, listOf (List.toArray u2) n2) :: (q1, listOf (List.toArray u1) n1) :: news) ∧ AllLt q5 ((q4, listOf (List.toArray u4) n4) :: (q3, listOf (List.toArray u3) n3) :: (q2, listOf (List.toArray u2) n2) :: (q1, listOf (List.toArray u1) n1) :: news))
    (i1 : IntsAre u1 c1) (i2 : IntsAre u2 c2) (i3 : IntsAre u3 c3) (i4 : IntsAre u4 c4) (i5 : IntsAre u5 c5) :
    WideEnd h₀ L m x news c1 c2 c3 c4 c5 s .next { s with heap := h', toks := tk' } :=
  ⟨D, q1, q2, q3, q4, q5, u1, u2, u3, u4, u5, n, n1, n2, n3, n4, n5, h', tk', rfl, rfl, F, fun p hp => N p (hs p hp), hl, ha, i1, i2, i3, i4, i5⟩
def BodyEnd (h₀ : Heap) (L : Addr) (m : Str → Option Value) (x : Str) (news : List (Addr × Obj)) (s : Shared) (f : Flow) (s' : Shared) : Prop :=
  ∃ v h' tk', f = .next ∧ s' = { s with heap := h', toks := tk' } ∧ Fr h₀ L h' (fun y => if y = x then some v else m y) ∧ News h₀ L h' news
theorem cut_body {prog : Program} {w : World} {A : Around} {e : PySem.Expr} {p1 p2 : Pos} {env : Env} {x : Str} {rest : List Stmt} {h₀ : Heap} {L : Addr} {m : Str → Option Value} {news : List (Addr × Obj)} {s : Shared} {Q : Flow → Shared → Prop} {E : Value → Shared → Prop}
    (hF0 : Fr h₀ L s.heap m) (hN0 : News h₀ L s.heap news)
    (h : BodyMark → wpAny (model prog w) A (execs (.Assign [.Name x p1] e p2 :: rest) env) (BodyEnd h₀ L m x news s) E s)
    (k : ∀ v h' tk', Fr h₀ L h' (fun y => if y = x then some v else m y) → News h₀ L h' news → Q .next { s with heap := h', toks := tk' }) :
    wpAny (model prog w) A (execs (.Assign [.Name x p1] e p2 :: rest) env) Q E s := by
  refine wpAny_mono (h ⟨⟩) ?_ (fun _ _ x => x)
  rintro f s' ⟨v, h', tk', rfl, rfl, F', N'⟩
  exact k v h' tk' F' N'
theorem body_end {h₀ : Heap} {L : Addr} {m : Str → Option Value} {x : Str} {news news' : List (Addr × Obj)} {s : Shared} {v : Value} {h' : Heap} {tk' : Nat}
    (F : Fr h₀ L h' (fun y => if y = x then some v else m y)) (N : News h₀ L h' news') (hsub : ∀ p ∈ news, p ∈ news') : BodyEnd h₀ L m x news s .next { s with heap := h', toks := tk' } :=
  ⟨v, h', tk', rfl, rfl, F, fun p hp => N p (hsub p hp)⟩
theorem gen_int {M : Model} {A : Around} {Q : Unit → Shared → Prop} {E : Value → Shared → Prop} {s : Shared} {env : Env} {x : Str} {v : Int} {t : Tok} (lo hi : Int) (hv : lo ≤ v ∧ v ≤ hi) (h : ∀ o : Int, lo ≤ o → o ≤ hi → wpAny M A (storeName env x (.int o t)) Q E s) :
    wpAny M A (storeName env x (.int v t)) Q E s := h v hv.1 hv.2
theorem gen_eq {M : Model} {A : Around} {Q : Unit → Shared → Prop} {E : Value → Shared → Prop} {s : Shared} {env : Env} {x : Str} {v : Int} {t : Tok} (lo hi : Int) (hv : lo ≤ v ∧ v ≤ hi) (h : ∀ o : Int, o = v → lo ≤ o → o ≤ hi → wpAny M A (storeName env x (.int o t)) Q E s) :
    wpAny M A (storeName env x (.int v t)) Q E s := h v rfl hv.1 hv.2
theorem fmod_rng {x b : Int} (hb : 0 < b) : 1 ≤ 1 + x.fmod b ∧ 1 + x.fmod b ≤ b := by
  rw [Int.fmod_eq_emod_of_nonneg _ (by omega)]
  have h1 := Int.emod_nonneg x (show b ≠ 0 by omega)
  have h2 := Int.emod_lt_of_pos x hb
  omega
theorem fmod_rng0 {x b : Int} (hb : 0 < b) : 0 ≤ x.fmod b ∧ x.fmod b ≤ b - 1 := by
  rw [Int.fmod_eq_emod_of_nonneg _ (by omega)]
  have h1 := Int.emod_nonneg x (show b ≠ 0 by omega)
  have h2 := Int.emod_lt_of_pos x hb
  omega
theorem size_rng {T n : Int} (h1 : 1 ≤ T) (h2 : T ≤ 32) (h3 : 1 ≤ n) (h4 : n ≤ 8) : 1 ≤ (T + n - 1).fdiv n ∧ (T + n - 1).fdiv n ≤ 32 := by
  rw [Int.fdiv_eq_ediv_of_nonneg _ (by omega)]
  refine ⟨(Int.le_ediv_iff_mul_le (by omega)).mpr (by omega), ?_⟩
  have h : (T + n - 1) / n < 33 := (Int.ediv_lt_iff_lt_mul (by omega)).mpr (by omega)
  omega
theorem full_rng {T n : Int} (h1 : 1 ≤ T) (h2 : T ≤ 32) (h3 : 1 ≤ n) : 0 ≤ T.fdiv n ∧ T.fdiv n ≤ 32 := by
  rw [Int.fdiv_eq_ediv_of_nonneg _ (by omega)]
  refine ⟨Int.ediv_nonneg (by omega) (by omega), ?_⟩
  exact Int.le_trans (Int.ediv_le_self _ (by omega)) h2
theorem pow_rng {n : Int} (h1 : 1 ≤ n) (h8 : n ≤ 8) : (2 : Int) ≤ 2 ^ n.toNat ∧ (2 : Int) ^ n.toNat ≤ 256 := by
  have : n = 1 ∨ n = 2 ∨ n = 3 ∨ n = 4 ∨ n = 5 ∨ n = 6 ∨ n = 7 ∨ n = 8 := by omega
  rcases this with h | h | h | h | h | h | h | h <;> subst h <;> decide
theorem mul_rng {a b : Int} (h1 : 1 ≤ a) (h2 : a ≤ 8) (h3 : 1 ≤ b) (h4 : b ≤ 4) : 1 ≤ a * b ∧ a * b ≤ 32 :=
  ⟨by have := Int.mul_le_mul h1 h3 (by decide) (by omega); simpa using this, by have := Int.mul_le_mul h2 h4 (by omega) (by decide); simpa using this⟩
theorem row_P {c : Int} {o : Int} {ds zs : List Int} (hc : 1 ≤ c) (hl : 1 ≤ ds.length ∧ (ds.length : Int) ≤ c) (hd : ∀ x ∈ ds, 0 ≤ x ∧ x < 2 ^ o.toNat) (hz : zs = (List.replicate c.toNat [(0 : Int)]).flatten) :
    (((ds ++ zs).take c.toNat).length : Int) = c ∧ ∀ x ∈ (ds ++ zs).take c.toNat, 0 ≤ x ∧ x < 2 ^ o.toNat := by
  have hlen : ((List.replicate c.toNat [(0 : Int)]).flatten).length = c.toNat := by simp
  refine ⟨by rw [List.length_take, List.length_append, hz, hlen]; omega, ?_⟩
  intro x hx
  rcases List.mem_append.mp (List.mem_of_mem_take hx) with h | h
  · exact hd x h
  · rw [hz] at h
    have : x = 0 := (show 0 < c ∧ x = 0 by simpa using h).2
    subst this
    exact ⟨Int.le_refl _, kbt_pos _⟩
end Mine
end
section
namespace Mine
set_option maxRecDepth 100000 in
set_option maxHeartbeats 8000000 in
theorem at_ok {w : World} {p : Program} {loose : List Str} {mean : ExcName → Option Value} {mg mb : Str → Option Value}
   {dp un : Nat} {gd : Option (List Code)} {cn : Str} {cs : Scope} {a : Addr} {ccd : Value} {cl : List (Str × Addr)} {outer : List Env} {A₀ : Around} {base h₀ : Heap} {L : Addr} {m : Str → Option Value} {s : Shared}
   {news : List (Addr × Obj)} {l : Addr} {vs : List Value} {ns : List Int} {k d : Int} {t1 t2 : Tok} {Q E : Value → Shared → Prop}
   (B : Below A₀ base outer h₀) (F : Fr h₀ L s.heap m) (X : (hd.heap_39 w.params).In h₀) (N : News h₀ L s.heap news) (T : Top p loose mean mg mb h₀) (hk : cs.kind = .function)
   (hl : base.IsList l vs.toArray) (hi : IntsAre vs ns) (hfit : ns.length < 2 ^ 62) (h0 : 0 ≤ k) (hd : dp + 1 < recursionLimit) (hu : un + 8 < cLine)
   (hret : ∀ v t h' tk', Fr h₀ L h' m → News h₀ L h' news → Q (.int v t) { s with heap := h', toks := tk' }) :
   wpAny (model PySem.Challenge.rw_oo0005_01.row.prog w) (ktrTop dp un gd cn cs L a ccd cl outer) (call (.ref 29) [.ref l, .int k t1, .int d t2]) Q E s := by
  revert X; k_fill; intro X
  w_top off
  k_with_none
  w_strict (
    refine wpAny_call ?_
    k_dflt (refine' code_def ?k1 ?k2 ?k3 ?k4 ?k5 ?kA ?kF ?kK ?k6 ?k7 ?k8 ?k9 ?kB ?_ ?c2 ?c3 ?c4 ?c5; (case kA => exact rfl); (case kF => exact rfl); (case kK => assumption); (case k1 => k_asm); (case k2 => k_asm); (case k3 => k_asm); (case k4 => k_asm); (case k5 => k_asm); (case k6 => k_is); (case k7 => k_is); (case k8 => ktr_room); (case k9 => first | exact BindsTo.of_eq rfl | exact binds_K (by k_in) rfl (by k_is) rfl rfl rfl); (case c5 => decide); (case kB => exact locs rfl); (case c2 => exact rfl); (case c3 => exact rfl); (case c4 => exact rfl); k_whole; intro g' L' h' FG' F' N' B' X' T'; (try dsimp only); (try k_lift B'); (try k_fold))
    k_steps
    all_goals (refine hret _ _ _ _ (by assumption) (by assumption)))
end Mine
end
section
namespace Mine

theorem rshift_zero {prog : Program} {w : World} {A : Around} {Q E : Value → Shared → Prop} {s : Shared} {a n : Int} {t u : Tok} (hn : 0 ≤ n) (h : 0 ≤ a ∧ a < 2 ^ n.toNat) (hq : Q (.int 0 s.toks) { s with toks := s.toks + 1 }) :
    wpAny (model prog w) A (binaryOp .RShift (.int a t) (.int n u)) Q E s := by
  refine rshift_int hn ?_
  have e : a.fdiv (2 ^ n.toNat) = 0 := by
    rw [Int.fdiv_eq_ediv_of_nonneg _ (by have := kbt_pos n.toNat; omega)]
    exact Int.ediv_eq_zero_of_lt h.1 h.2
  rw [e]
  exact hq
local macro_rules | `(tactic| walk_at "binaryOp RShift int int") => `(tactic| (k_here; (with_reducible refine rshift_zero ?kb1 ?kb2 ?_); (case kb1 => omega); (case kb2 => assumption)))

theorem news_push {h₀ h : Heap} {L q : Addr} {us : List Value} {v : Value} {n : Nat} {r : List (Addr × Obj)} (N : News h₀ L h ((q, listOf (us.toArray.push v) n) :: r)) : News h₀ L h ((q, listOf (us ++ [v]).toArray n) :: r) := by
  rw [← List.push_toArray]
  exact N
theorem news_tail {h₀ h : Heap} {L : Addr} {p : Addr × Obj} {r : List (Addr × Obj)} (N : News h₀ L h (p :: r)) : News h₀ L h r := fun q hq => N q (.tail _ hq)
theorem ints_eq {us : List Value} {xs ys : List Int} (h : IntsAre us xs) (e : xs = ys) : IntsAre us ys := e ▸ h
theorem ints_snoc {us : List Value} {xs ys : List Int} {n : Int} {t : Tok} (h : IntsAre us xs) (e : xs ++ [n] = ys) : IntsAre (us ++ [.int n t]) ys := e ▸ IntsAre.append h (.cons _ _ .nil)

set_option maxRecDepth 100000 in
set_option maxHeartbeats 8000000 in
theorem conv_pad {w : World} {p : Program} {loose : List Str} {mean : ExcName → Option Value} {mg mb : Str → Option Value}
   {dp un : Nat} {gd : Option (List Code)} {cn : Str} {cs : Scope} {a : Addr} {ccd : Value} {cl : List (Str × Addr)} {outer : List Env} {A₀ : Around} {base h₀ : Heap} {L : Addr} {m : Str → Option Value} {s : Shared}
   {l : Addr} {vs : List Value} {nn : Nat} {rest : List (Addr × Obj)} {ns : List Int} {old new : Int} {t1 t2 : Tok} {Q E : Value → Shared → Prop}
   (B : Below A₀ base outer h₀) (F : Fr h₀ L s.heap m) (X : (hd.heap_39 w.params).In h₀) (N : News h₀ L s.heap ((l, listOf vs.toArray nn) :: rest)) (T : Top p loose mean mg mb h₀) (hk : cs.kind = .function)
   (hi : IntsAre vs ns) (ho1 : 1 ≤ old) (ho8 : old ≤ 8) (hn1 : 1 ≤ new) (hn8 : new ≤ 8) (hns : ∀ x ∈ ns, 0 ≤ x ∧ x < 2 ^ old.toNat) (hlen : ns.length ≤ 4) (hd : dp + 1 < recursionLimit) (hu : un + 8 < cLine)
   (hret : ∀ q us n' h' tk', Fr h₀ L h' m → News h₀ L h' ((q, listOf us.toArray n') :: (l, listOf vs.toArray nn) :: rest) → (l < q ∧ AllLt q rest) → IntsAre us (conv old.toNat new.toNat ns) → Q (.ref q) { s with heap := h', toks := tk' }) :
   wpAny (model PySem.Challenge.rw_oo0005_01.row.prog w) (ktrTop dp un gd cn cs L a ccd cl outer) (call (.ref 22) [.ref l, .int old t1, .int new t2]) Q E s := by
  revert X; k_fill; intro X
  w_top off
  k_with_none
  k_with "pyIter ref" => (k_state_given ["frombits", "tobits"] (fun old new pre acc bits ret => PW old new pre acc bits ret) "acc" "bits" "ret"; all_goals (try (rename _ ∈ ns => hm9; have hK9 := hns _ hm9)); all_goals (try (rename PW _ _ _ _ _ _ => hP9; have hP8 := hP9; unfold PW at hP8; obtain ⟨hb1, hb2, hb3, hb4, hb5, -⟩ := hP8)))
  k_with "exec While Compare cons nil" => (k_while_given ["tobits", "acc", "bits!", "ret!"] (fun new acc b0 r0 _ bits ret => WInv new acc b0 r0 bits ret) (fun _ _ _ _ _ bits _ => bits.toNat) "bits" "ret"; all_goals (try (rename WInv _ _ _ _ _ _ => hW9; have hW8 := hW9; unfold WInv at hW8; obtain ⟨hw1, hw2, hw3, -⟩ := hW8)))
  k_with "state" => first
    | exact pw_start hn1
    | exact ww_start (by omega)
    | exact ww_step hn1 (by assumption) (by omega)
    | exact pw_turn ho1 ho8 hn1 hn8 (by omega) (by assumption) (by assumption) (by assumption) (by omega)
  w_strict (
    refine wpAny_call ?_
    k_dflt (refine' code_def ?k1 ?k2 ?k3 ?k4 ?k5 ?kA ?kF ?kK ?k6 ?k7 ?k8 ?k9 ?kB ?_ ?c2 ?c3 ?c4 ?c5; (case kA => exact rfl); (case kF => exact rfl); (case kK => assumption); (case k1 => k_asm); (case k2 => k_asm); (case k3 => k_asm); (case k4 => k_asm); (case k5 => k_asm); (case k6 => k_is); (case k7 => k_is); (case k8 => ktr_room); (case k9 => first | exact BindsTo.of_eq rfl | exact binds_K (by k_in) rfl (by k_is) rfl rfl rfl); (case c5 => decide); (case kB => exact locs rfl); (case c2 => exact rfl); (case c3 => exact rfl); (case c4 => exact rfl); k_whole; intro g' L' h' FG' F' N' B' X' T'; (try dsimp only); (try k_lift B'); (try k_fold))
    k_steps
    all_goals first
      | exact hret _ _ _ _ _ (by assumption) (by assumption) (by assumption) (ints_eq (by assumption) (pw_end0 (by assumption) (by assumption)))
      | exact hret _ _ _ _ _ (by assumption) (news_push (by assumption)) (by assumption) (ints_snoc (by assumption) (pw_end1 ho1 hn1 (by assumption) (by assumption))))

set_option maxRecDepth 100000 in
set_option maxHeartbeats 8000000 in
theorem conv_bare {w : World} {p : Program} {loose : List Str} {mean : ExcName → Option Value} {mg mb : Str → Option Value}
   {dp un : Nat} {gd : Option (List Code)} {cn : Str} {cs : Scope} {a : Addr} {ccd : Value} {cl : List (Str × Addr)} {outer : List Env} {A₀ : Around} {base h₀ : Heap} {L : Addr} {m : Str → Option Value} {s : Shared}
   {l : Addr} {vs : List Value} {nn : Nat} {rest : List (Addr × Obj)} {ns : List Int} {old new : Int} {t1 t2 : Tok} {Q E : Value → Shared → Prop}
   (B : Below A₀ base outer h₀) (F : Fr h₀ L s.heap m) (X : (hd.heap_39 w.params).In h₀) (N : News h₀ L s.heap ((l, listOf vs.toArray nn) :: rest)) (T : Top p loose mean mg mb h₀) (hk : cs.kind = .function)
   (hi : IntsAre vs ns) (ho1 : 1 ≤ old) (ho8 : old ≤ 8) (hn1 : 1 ≤ new) (hn8 : new ≤ 8) (hns : ∀ x ∈ ns, 0 ≤ x ∧ x < 2 ^ old.toNat) (hlen : ns.length ≤ 4) (hd : dp + 1 < recursionLimit) (hu : un + 8 < cLine)
   (hret : old.toNat * ns.length % new.toNat < old.toNat → lastG old.toNat new.toNat ns = 0 → ∀ q us n' h' tk', Fr h₀ L h' m → News h₀ L h' ((q, listOf us.toArray n') :: (l, listOf vs.toArray nn) :: rest) → (l < q ∧ AllLt q rest) → IntsAre us (fulls old.toNat new.toNat ns) → Q (.ref q) { s with heap := h', toks := tk' })
   (hnone : ¬ (old.toNat * ns.length % new.toNat < old.toNat ∧ lastG old.toNat new.toNat ns = 0) → ∀ h' tk', Fr h₀ L h' m → News h₀ L h' ((l, listOf vs.toArray nn) :: rest) → Q .none { s with heap := h', toks := tk' }) :
   wpAny (model PySem.Challenge.rw_oo0005_01.row.prog w) (ktrTop dp un gd cn cs L a ccd cl outer) (call (.ref 22) [.ref l, .int old t1, .int new t2, .bool false]) Q E s := by
  revert X; k_fill; intro X
  w_top off
  k_with_none
  k_with "pyIter ref" => (k_state_given ["frombits", "tobits"] (fun old new pre acc bits ret => PW old new pre acc bits ret) "acc" "bits" "ret"; all_goals (try (rename _ ∈ ns => hm9; have hK9 := hns _ hm9)); all_goals (try (rename PW _ _ _ _ _ _ => hP9; have hP8 := hP9; unfold PW at hP8; obtain ⟨hb1, hb2, hb3, hb4, hb5, -⟩ := hP8)))
  k_with "exec While Compare cons nil" => (k_while_given ["tobits", "acc", "bits!", "ret!"] (fun new acc b0 r0 _ bits ret => WInv new acc b0 r0 bits ret) (fun _ _ _ _ _ bits _ => bits.toNat) "bits" "ret"; all_goals (try (rename WInv _ _ _ _ _ _ => hW9; have hW8 := hW9; unfold WInv at hW8; obtain ⟨hw1, hw2, hw3, -⟩ := hW8)))
  k_with "state" => first
    | exact pw_start hn1
    | exact ww_start (by omega)
    | exact ww_step hn1 (by assumption) (by omega)
    | exact pw_turn ho1 ho8 hn1 hn8 (by omega) (by assumption) (by assumption) (by assumption) (by omega)
  w_strict (
    refine wpAny_call ?_
    k_dflt (refine' code_def ?k1 ?k2 ?k3 ?k4 ?k5 ?kA ?kF ?kK ?k6 ?k7 ?k8 ?k9 ?kB ?_ ?c2 ?c3 ?c4 ?c5; (case kA => exact rfl); (case kF => exact rfl); (case kK => assumption); (case k1 => k_asm); (case k2 => k_asm); (case k3 => k_asm); (case k4 => k_asm); (case k5 => k_asm); (case k6 => k_is); (case k7 => k_is); (case k8 => ktr_room); (case k9 => first | exact BindsTo.of_eq rfl | exact binds_K (by k_in) rfl (by k_is) rfl rfl rfl); (case c5 => decide); (case kB => exact locs rfl); (case c2 => exact rfl); (case c3 => exact rfl); (case c4 => exact rfl); k_whole; intro g' L' h' FG' F' N' B' X' T'; (try dsimp only); (try k_lift B'); (try k_fold))
    k_steps
    all_goals first
      | exact hret (pw_lt ho1 (by assumption) (by omega)) ((pw_last ho1 hn1 (by assumption)).symm.trans (by assumption)) _ _ _ _ _ (by assumption) (by assumption) (by assumption) (ints_eq (by assumption) (pw_bare (by assumption)))
      | exact hnone (fun h9 => absurd h9.1 (pw_ge ho1 (by assumption) (by omega))) _ _ (by assumption) (news_tail (by assumption))
      | exact hnone (fun h9 => absurd ((pw_last ho1 hn1 (by assumption)).trans h9.2) (by assumption)) _ _ (by assumption) (news_tail (by assumption)))

end Mine
end
section
namespace Mine
def DInv (base most : Int) (number : Int) (digits : List Int) : Prop := 0 ≤ number ∧ 1 ≤ digits.length ∧ (digits.length : Int) ≤ most ∧ ∀ x ∈ digits, 0 ≤ x ∧ x < base
local macro_rules | `(tactic| kst_facts1) => `(tactic| exact IntsAre.cons _ _ IntsAre.nil)
local macro_rules | `(tactic| walk_at "binaryOp FloorDiv int int") => `(tactic| (k_here; (with_reducible refine floordiv_int ?kb1 ?_ (Or.inl (PyProof.noPylong_small ?kb2))); (case kb1 => omega); (case kb2 => omega)))
theorem fmod_in {b n : Int} (hb : 2 ≤ b) : 0 ≤ n.fmod b ∧ n.fmod b < b := by
  rw [Int.fmod_eq_emod_of_nonneg _ (by omega)]
  exact ⟨Int.emod_nonneg _ (by omega), Int.emod_lt_of_pos _ (by omega)⟩
theorem DInv.in {b c n : Int} {ds : List Int} (h : DInv b c n ds) : ∀ x ∈ ds, 0 ≤ x ∧ x < b := h.2.2.2
theorem d_start {b c n x : Int} (hc : 1 ≤ c) (hn : 0 ≤ n) (hx : 0 ≤ x ∧ x < b) : DInv b c n [x] := by
  refine ⟨hn, by simp, by simpa using hc, ?_⟩
  intro y hy
  rw [List.mem_singleton.mp hy]
  exact hx
theorem d_step {b c n : Int} {ds : List Int} (hb : 2 ≤ b) (h : DInv b c n ds) (hlt : (ds.length : Int) < c) : DInv b c (n.fdiv b) (ds ++ [(n.fdiv b).fmod b]) := by
  obtain ⟨h0, h1, h2, h3⟩ := h
  refine ⟨?_, by simp, by simp only [List.length_append, List.length_cons, List.length_nil]; omega, ?_⟩
  · rw [Int.fdiv_eq_ediv_of_nonneg _ (by omega)]
    exact Int.ediv_nonneg h0 (by omega)
  · intro y hy
    rcases List.mem_append.mp hy with hy | hy
    · exact h3 y hy
    · rw [List.mem_singleton.mp hy, Int.fmod_eq_emod_of_nonneg _ (by omega)]
      exact ⟨Int.emod_nonneg _ (by omega), Int.emod_lt_of_pos _ (by omega)⟩
set_option maxRecDepth 100000 in
set_option maxHeartbeats 8000000 in
theorem digits_ok {w : World} {p : Program} {loose : List Str} {mean : ExcName → Option Value} {mg mb : Str → Option Value}
   {dp un : Nat} {gd : Option (List Code)} {cn : Str} {cs : Scope} {a : Addr} {ccd : Value} {cl : List (Str × Addr)} {outer : List Env} {A₀ : Around} {base h₀ : Heap} {L : Addr} {m : Str → Option Value} {s : Shared}
   {news : List (Addr × Obj)} {n b c : Int} {t1 t2 t3 : Tok} {Q E : Value → Shared → Prop}
   (B : Below A₀ base outer h₀) (F : Fr h₀ L s.heap m) (X : (hd.heap_39 w.params).In h₀) (N : News h₀ L s.heap news) (T : Top p loose mean mg mb h₀) (hk : cs.kind = .function)
   (hb2 : 2 ≤ b) (hb3 : b ≤ 256) (hc1 : 1 ≤ c) (hc4 : c ≤ 4) (hd : dp + 1 < recursionLimit) (hu : un + 8 < cLine)
   (hret : ∀ q us ds n' h' tk', Fr h₀ L h' m → News h₀ L h' ((q, listOf us.toArray n') :: news) → (∀ p ∈ news, p.1 < q) → IntsAre us ds → (1 ≤ ds.length ∧ (ds.length : Int) ≤ c) → (∀ x ∈ ds, 0 ≤ x ∧ x < b) → Q (.ref q) { s with heap := h', toks := tk' }) :
   wpAny (model PySem.Challenge.rw_oo0005_01.row.prog w) (ktrTop dp un gd cn cs L a ccd cl outer) (call (.ref 36) [.int n t1, .int b t2, .int c t3]) Q E s := by
  revert X; k_fill; intro X
  w_top off
  k_with_none
  k_with "state" => first
    | exact d_start hc1 (by assumption) (by assumption)
    | exact d_step hb2 (by assumption) (by omega)
  w_strict (
    refine wpAny_call ?_
    k_dflt (refine' code_def ?k1 ?k2 ?k3 ?k4 ?k5 ?kA ?kF ?kK ?k6 ?k7 ?k8 ?k9 ?kB ?_ ?c2 ?c3 ?c4 ?c5; (case kA => exact rfl); (case kF => exact rfl); (case kK => assumption); (case k1 => k_asm); (case k2 => k_asm); (case k3 => k_asm); (case k4 => k_asm); (case k5 => k_asm); (case k6 => k_is); (case k7 => k_is); (case k8 => ktr_room); (case k9 => first | exact BindsTo.of_eq rfl | exact binds_K (by k_in) rfl (by k_is) rfl rfl rfl); (case c5 => decide); (case kB => exact locs rfl); (case c2 => exact rfl); (case c3 => exact rfl); (case c4 => exact rfl); k_whole; intro g' L' h' FG' F' N' B' X' T'; (try dsimp only); (try k_lift B'); (try k_fold))
    repeat ((fail_if_success (with_reducible show wpAny _ _ (exec (PySem.Stmt.While _ _ _ _) _) _ _ _)); first | (k_unfold; (try dsimp only)) | walk1 | (dsimp only; walk1))
    have hA9 : 0 ≤ (if n < 0 then -n else n) := by (split <;> omega)
    have hB9 := fmod_in (n := if n < 0 then -n else n) hb2
    generalize (if n < 0 then -n else n) = n9 at *
    generalize n9.fmod b = m9 at *
    k_while_given ["base", "most"] (fun base most _ number digits => DInv base most number digits) (fun _ most _ _ digits => (most - digits.length).toNat) "number" "digits"
    all_goals (try (rename DInv _ _ _ _ => hD9; have hD8 := hD9; unfold DInv at hD8; obtain ⟨hw1, hw2, hw3, -⟩ := hD8))
    k_steps
    all_goals (
      (rename News h₀ L _ _ => kN9)
      refine hret _ _ _ _ _ _ (by assumption) kN9 (by assumption) (by assumption) ⟨hw2, hw3⟩ ?_
      exact DInv.in (by assumption)))
end Mine
end
section
namespace Mine
theorem Row.len {o c : Int} {ns : List Int} (h : Row o c ns) : (ns.length : Int) = c := h.1
theorem news_dup {h₀ h : Heap} {L : Addr} {news : List (Addr × Obj)} {p : Addr × Obj} (N : News h₀ L h news) (hm : p ∈ news) : News h₀ L h (p :: news) := fun q hq => (List.mem_cons.mp hq).elim (fun e => N q (e ▸ hm)) (fun h => N q h)
theorem conv_pad' {w : World} {p : Program} {loose : List Str} {mean : ExcName → Option Value} {mg mb : Str → Option Value}
   {dp un : Nat} {gd : Option (List Code)} {cn : Str} {cs : Scope} {a : Addr} {ccd : Value} {cl : List (Str × Addr)} {outer : List Env} {A₀ : Around} {base h₀ : Heap} {L : Addr} {m : Str → Option Value} {s : Shared}
   {l : Addr} {vs : List Value} {nn : Nat} {news : List (Addr × Obj)} {ns : List Int} {old new count : Int} {t1 t2 : Tok} {Q E : Value → Shared → Prop}
   (B : Below A₀ base outer h₀) (F : Fr h₀ L s.heap m) (X : (hd.heap_39 w.params).In h₀) (N : News h₀ L s.heap news) (T : Top p loose mean mg mb h₀) (hk : cs.kind = .function)
   (hl : (l, listOf vs.toArray nn) ∈ news) (hi : IntsAre vs ns) (hr : Row old count ns) (ho1 : 1 ≤ old) (ho8 : old ≤ 8) (hn1 : 1 ≤ new) (hn8 : new ≤ 8) (hc : count ≤ 4) (hd : dp + 1 < recursionLimit) (hu : un + 8 < cLine)
   (hret : ∀ q us n' h' tk', Fr h₀ L h' m → News h₀ L h' ((q, listOf (List.toArray us) n') :: news) → AllLt q news → IntsAre us (conv old.toNat new.toNat ns) → Q (.ref q) { s with heap := h', toks := tk' }) :
   wpAny (model PySem.Challenge.rw_oo0005_01.row.prog w) (ktrTop dp un gd cn cs L a ccd cl outer) (call (.ref 22) [.ref l, .int old t1, .int new t2]) Q E s :=
  conv_pad B F X (news_dup N hl) T hk hi ho1 ho8 hn1 hn8 hr.2 (by have := hr.1; omega) hd hu (fun q us n' h' tk' F' N' lt I => hret q us n' h' tk' F' (fun p hp => N' p ((List.mem_cons.mp hp).elim (fun e => e ▸ .head _) (fun h => .tail _ (.tail _ h)))) lt.2 I)
theorem let_iff {o c n : Int} {ns : List Int} (ho : 1 ≤ o) (hc : 1 ≤ c) (hn : 1 ≤ n) (hr : Row o c ns) : o.toNat * ns.length % n.toNat < o.toNat ↔ (o * c).fmod n < o := by
  have e : (o * c).fmod n = ((o.toNat * ns.length % n.toNat : Nat) : Int) := by
    have hl : ns.length = c.toNat := by have := hr.1; omega
    rw [hl, Int.fmod_eq_emod_of_nonneg _ (by omega), Int.natCast_emod, Int.natCast_mul, Int.toNat_of_nonneg (by omega), Int.toNat_of_nonneg (by omega), Int.toNat_of_nonneg (by omega)]
  rw [e]
  omega
theorem conv_bare' {w : World} {p : Program} {loose : List Str} {mean : ExcName → Option Value} {mg mb : Str → Option Value}
   {dp un : Nat} {gd : Option (List Code)} {cn : Str} {cs : Scope} {a : Addr} {ccd : Value} {cl : List (Str × Addr)} {outer : List Env} {A₀ : Around} {base h₀ : Heap} {L : Addr} {m : Str → Option Value} {s : Shared}
   {l : Addr} {vs : List Value} {nn : Nat} {news : List (Addr × Obj)} {ns : List Int} {old new count : Int} {t1 t2 : Tok} {Q E : Value → Shared → Prop}
   (B : Below A₀ base outer h₀) (F : Fr h₀ L s.heap m) (X : (hd.heap_39 w.params).In h₀) (N : News h₀ L s.heap news) (T : Top p loose mean mg mb h₀) (hk : cs.kind = .function)
   (hl : (l, listOf vs.toArray nn) ∈ news) (hi : IntsAre vs ns) (hr : Row old count ns) (ho1 : 1 ≤ old) (ho8 : old ≤ 8) (hn1 : 1 ≤ new) (hn8 : new ≤ 8) (hc1 : 1 ≤ count) (hc : count ≤ 4) (hd : dp + 1 < recursionLimit) (hu : un + 8 < cLine)
   (hret : (old * count).fmod new < old ∧ lastG old.toNat new.toNat ns = 0 → ∀ q us n' h' tk', Fr h₀ L h' m → News h₀ L h' ((q, listOf (List.toArray us) n') :: news) → AllLt q news → IntsAre us (fulls old.toNat new.toNat ns) → Q (.ref q) { s with heap := h', toks := tk' })
   (hnone : ¬ ((old * count).fmod new < old ∧ lastG old.toNat new.toNat ns = 0) → ∀ h' tk', Fr h₀ L h' m → News h₀ L h' news → Q .none { s with heap := h', toks := tk' }) :
   wpAny (model PySem.Challenge.rw_oo0005_01.row.prog w) (ktrTop dp un gd cn cs L a ccd cl outer) (call (.ref 22) [.ref l, .int old t1, .int new t2, .bool false]) Q E s :=
  conv_bare B F X (news_dup N hl) T hk hi ho1 ho8 hn1 hn8 hr.2 (by have := hr.1; omega) hd hu
    (fun h1 h2 q us n' h' tk' F' N' lt I => hret ⟨(let_iff ho1 hc1 hn1 hr).mp h1, h2⟩ q us n' h' tk' F' (fun p hp => N' p ((List.mem_cons.mp hp).elim (fun e => e ▸ .head _) (fun h => .tail _ (.tail _ h)))) lt.2 I)
    (fun h1 h' tk' F' N' => hnone (fun x => h1 ⟨(let_iff ho1 hc1 hn1 hr).mpr x.1, x.2⟩) h' tk' F' (fun p hp => N' p (.tail _ hp)))
theorem conv_bareT {w : World} {p : Program} {loose : List Str} {mean : ExcName → Option Value} {mg mb : Str → Option Value}
   {dp un : Nat} {gd : Option (List Code)} {cn : Str} {cs : Scope} {a : Addr} {ccd : Value} {cl : List (Str × Addr)} {outer : List Env} {A₀ : Around} {base h₀ : Heap} {L : Addr} {m : Str → Option Value} {s : Shared}
   {l : Addr} {vs : List Value} {nn : Nat} {news : List (Addr × Obj)} {ns : List Int} {old new count : Int} {t1 t2 : Tok} {Q E : Value → Shared → Prop}
   (B : Below A₀ base outer h₀) (F : Fr h₀ L s.heap m) (X : (hd.heap_39 w.params).In h₀) (N : News h₀ L s.heap news) (T : Top p loose mean mg mb h₀) (hk : cs.kind = .function)
   (hl : (l, listOf vs.toArray nn) ∈ news) (hi : IntsAre vs ns) (hr : Row old count ns) (ho1 : 1 ≤ old) (ho8 : old ≤ 8) (hn1 : 1 ≤ new) (hn8 : new ≤ 8) (hc1 : 1 ≤ count) (hc : count ≤ 4) (hd : dp + 1 < recursionLimit) (hu : un + 8 < cLine)
   (hC : (old * count).fmod new < old ∧ lastG old.toNat new.toNat ns = 0)
   (hret : ∀ q us n' h' tk', Fr h₀ L h' m → News h₀ L h' ((q, listOf (List.toArray us) n') :: news) → AllLt q news → IntsAre us (fulls old.toNat new.toNat ns) → Q (.ref q) { s with heap := h', toks := tk' }) :
   wpAny (model PySem.Challenge.rw_oo0005_01.row.prog w) (ktrTop dp un gd cn cs L a ccd cl outer) (call (.ref 22) [.ref l, .int old t1, .int new t2, .bool false]) Q E s :=
  conv_bare' B F X N T hk hl hi hr ho1 ho8 hn1 hn8 hc1 hc hd hu (fun _ => hret) (fun h => absurd hC h)
theorem conv_bareF {w : World} {p : Program} {loose : List Str} {mean : ExcName → Option Value} {mg mb : Str → Option Value}
   {dp un : Nat} {gd : Option (List Code)} {cn : Str} {cs : Scope} {a : Addr} {ccd : Value} {cl : List (Str × Addr)} {outer : List Env} {A₀ : Around} {base h₀ : Heap} {L : Addr} {m : Str → Option Value} {s : Shared}
   {l : Addr} {vs : List Value} {nn : Nat} {news : List (Addr × Obj)} {ns : List Int} {old new count : Int} {t1 t2 : Tok} {Q E : Value → Shared → Prop}
   (B : Below A₀ base outer h₀) (F : Fr h₀ L s.heap m) (X : (hd.heap_39 w.params).In h₀) (N : News h₀ L s.heap news) (T : Top p loose mean mg mb h₀) (hk : cs.kind = .function)
   (hl : (l, listOf vs.toArray nn) ∈ news) (hi : IntsAre vs ns) (hr : Row old count ns) (ho1 : 1 ≤ old) (ho8 : old ≤ 8) (hn1 : 1 ≤ new) (hn8 : new ≤ 8) (hc1 : 1 ≤ count) (hc : count ≤ 4) (hd : dp + 1 < recursionLimit) (hu : un + 8 < cLine)
   (hC : ¬ ((old * count).fmod new < old ∧ lastG old.toNat new.toNat ns = 0))
   (hnone : ∀ h' tk', Fr h₀ L h' m → News h₀ L h' news → Q .none { s with heap := h', toks := tk' }) :
   wpAny (model PySem.Challenge.rw_oo0005_01.row.prog w) (ktrTop dp un gd cn cs L a ccd cl outer) (call (.ref 22) [.ref l, .int old t1, .int new t2, .bool false]) Q E s :=
  conv_bare' B F X N T hk hl hi hr ho1 ho8 hn1 hn8 hc1 hc hd hu (fun h => absurd h hC) (fun _ => hnone)
theorem ne_same {prog : Program} {w : World} {A : Around} {E : Value → Shared → Prop} {s : Shared} {a b : Addr} {vs us : List Value} {ns ms : List Int} {Q : Value → Shared → Prop} (hl : s.heap.IsList a vs.toArray) (hi : IntsAre vs ns) (hl' : s.heap.IsList b us.toArray) (hi' : IntsAre us ms) (hu : A.units + 64 < cLine)
    (e : ns = ms) (h : Q (.bool false) s) : wpAny (model prog w) A (compareOp .NotEq (.ref a) (.ref b)) Q E s := by
  refine ne_intsK hl hi hl' hi' hu ?_
  rw [decide_eq_true e]
  exact h
theorem ne_int_same {prog : Program} {w : World} {A : Around} {E : Value → Shared → Prop} {s : Shared} {a b : Int} {t u : Tok} {Q : Value → Shared → Prop} (e : a = b) (h : Q (.bool false) s) :
    wpAny (model prog w) A (compareOp .NotEq (.int a t) (.int b u)) Q E s := by
  refine ne_int ?_
  rw [e]
  simpa using h
theorem rng_up {k c : Int} (h : k < 0 + ((c - 0).toNat : Int)) (hc : 1 ≤ c) : k < c := by omega
theorem rng_fit4 {k c : Int} (h : k < 0 + ((c - 0).toNat : Int)) (hc : 1 ≤ c) (h4 : c ≤ 4) : k < 2 ^ 63 := by omega
theorem rng_fit32 {k c : Int} (h : k < 0 + ((c - 0).toNat : Int)) (hc : 1 ≤ c) (h4 : c ≤ 32) : k < 2 ^ 63 := by omega
theorem rng_len {k c : Int} {F : List Int} (h : k < 0 + ((c - 0).toNat : Int)) (hF : (F.length : Int) = c) : k < F.length := by omega
theorem loneL_len {o c pl : Int} {xs : List Int} (hc : 1 ≤ c) (h : xs = loneL o c pl) : (xs.length : Int) = c := by
  rw [h]
  unfold loneL
  rw [List.length_map, rangeKs_length]
  omega
theorem lone_cond {o c n pl full : Int} (ho1 : 1 ≤ o) (ho8 : o ≤ 8) (hn1 : 1 ≤ n) (hc1 : 1 ≤ c) (hp0 : 0 ≤ pl) (hp1 : pl ≤ o * c - 1) (hfu : full = (o * c).fdiv n) :
    ((o * c).fmod n < o ∧ lastG o.toNat n.toNat (loneL o c pl) = 0) ↔ ((o * c).fmod n < o ∧ pl < full * n) :=
  and_congr_right fun _ => lone_last ho1 ho8 hn1 hc1 hp0 hp1 hfu
theorem lone_bare {o c n pl size full : Int} (ho1 : 1 ≤ o) (ho8 : o ≤ 8) (hn1 : 1 ≤ n) (hc1 : 1 ≤ c) (hp0 : 0 ≤ pl) (hp1 : pl ≤ o * c - 1) (hsz : size = (o * c + n - 1).fdiv n) (hfu : full = (o * c).fdiv n) :
    fulls o.toNat n.toNat (loneL o c pl) = (loneL n size pl).take full.toNat := by
  rw [← conv_take ho1 hn1 hc1 (lone_row ho1 ho8 hc1 hp0) hfu, lone_law ho1 ho8 hn1 hc1 hp0 hp1 hsz]
theorem lone_cond' {o c n pl full : Int} {lone : List Int} (hl : lone = loneL o c pl) (ho1 : 1 ≤ o) (ho8 : o ≤ 8) (hn1 : 1 ≤ n) (hc1 : 1 ≤ c) (hp0 : 0 ≤ pl) (hp1 : pl ≤ o * c - 1) (hfu : full = (o * c).fdiv n) :
    ((o * c).fmod n < o ∧ lastG o.toNat n.toNat lone = 0) ↔ ((o * c).fmod n < o ∧ pl < full * n) := hl ▸ lone_cond ho1 ho8 hn1 hc1 hp0 hp1 hfu
theorem lone_law' {o c n pl size : Int} {lone due : List Int} (hl : lone = loneL o c pl) (hd : due = loneL n size pl) (ho1 : 1 ≤ o) (ho8 : o ≤ 8) (hn1 : 1 ≤ n) (hc1 : 1 ≤ c) (hp0 : 0 ≤ pl) (hp1 : pl ≤ o * c - 1) (hsz : size = (o * c + n - 1).fdiv n) : conv o.toNat n.toNat lone = due :=
  hl ▸ hd ▸ lone_law ho1 ho8 hn1 hc1 hp0 hp1 hsz
theorem lone_bare' {o c n pl size full : Int} {lone due : List Int} (hl : lone = loneL o c pl) (hd : due = loneL n size pl) (ho1 : 1 ≤ o) (ho8 : o ≤ 8) (hn1 : 1 ≤ n) (hc1 : 1 ≤ c) (hp0 : 0 ≤ pl) (hp1 : pl ≤ o * c - 1) (hsz : size = (o * c + n - 1).fdiv n) (hfu : full = (o * c).fdiv n) :
    fulls o.toNat n.toNat lone = due.take full.toNat := hl ▸ hd ▸ lone_bare ho1 ho8 hn1 hc1 hp0 hp1 hsz hfu
theorem eq_bare {prog : Program} {w : World} {A : Around} {E : Value → Shared → Prop} {s : Shared} {a b : Addr} {vs us : List Value} {o c n full : Int} {X : List Int} {Q : Value → Shared → Prop} (hl : s.heap.IsList a vs.toArray)
    (hi : IntsAre vs (List.map (fun a => a) (List.filter (fun a => a != 0) (List.drop full.toNat (conv o.toNat n.toNat X))))) (hl' : s.heap.IsList b us.toArray) (hi' : IntsAre us []) (hu : A.units + 64 < cLine)
    (ho1 : 1 ≤ o) (hn1 : 1 ≤ n) (hc1 : 1 ≤ c) (hr : Row o c X) (hfu : full = (o * c).fdiv n)
    (h1 : lastG o.toNat n.toNat X = 0 → Q (.bool true) s) (h2 : ¬ lastG o.toNat n.toNat X = 0 → Q (.bool false) s) : wpAny (model prog w) A (compareOp .Eq (.ref a) (.ref b)) Q E s := by
  refine eq_intsK hl hi hl' hi' hu ?_
  by_cases hz : lastG o.toNat n.toNat X = 0
  · rw [decide_eq_true ((drop_law ho1 hn1 hc1 hr hfu).mpr hz)]
    exact h1 hz
  · rw [decide_eq_false (fun e => hz ((drop_law ho1 hn1 hc1 hr hfu).mp e))]
    exact h2 hz
end Mine
end
section
namespace Mine
local macro_rules | `(tactic| walk_at "binaryOp Pow int int") => `(tactic| (k_here; (with_reducible refine pow_int_small ?kb1 ?kb2 ?kb3 ?_); (case kb1 => omega); (case kb2 => omega); (case kb3 => decide)))
local macro_rules | `(tactic| walk_at "binaryOp Mod int int") => `(tactic| (k_here; (with_reducible refine mod_int ?kb1 ?_); (case kb1 => omega)))
local macro_rules | `(tactic| walk_at "binaryOp FloorDiv int int") => `(tactic| (k_here; (with_reducible refine floordiv_int ?kb1 ?_ (Or.inl (PyProof.noPylong_small ?kb2))); (case kb1 => omega); (case kb2 => omega)))
local macro_rules | `(tactic| walk_at "storeName") => `(tactic| k_extra "my store")
local macro_rules | `(tactic| walk_at "call ref") => `(tactic| (k_here; k_dflt (refine' digits_ok ?k1 ?k2 ?k3 ?k4 ?k5 ?kK ?kb ?kb3 ?kc ?kc4 ?kd ?ku ?_; (case k1 => k_asm); (case k2 => k_asm); (case k3 => k_asm); (case k4 => k_asm); (case k5 => k_asm); (case kK => first | exact rfl | assumption); (case kb => exact (pow_rng (by assumption) (by assumption)).1); (case kb3 => exact (pow_rng (by assumption) (by assumption)).2); (case kc => assumption); (case kc4 => assumption); (case kd => ktr_room); (case ku => ktr_units)); intro q9 us9 ds9 n9 h9 tk9 F9 N9 l9 I9 hl9 hd9; (try k_lt l9); (try dsimp only); (try k_fold)))
local macro_rules | `(tactic| walk_at "call ref") => `(tactic| (k_here; k_dflt (refine' at_ok ?k1 ?k2 ?k3 ?k4 ?k5 ?kK ?kl ?ki ?kt ?k0 ?kd ?ku ?_; (case k1 => k_asm); (case k2 => k_asm); (case k3 => k_asm); (case k4 => k_asm); (case k5 => k_asm); (case kK => first | exact rfl | assumption); (case kl => k_asm); (case ki => l_ints); (case kt => l_fit); (case k0 => decide); (case kd => ktr_room); (case ku => ktr_units)); intro v9 t9 h9 tk9 F9 N9; (try dsimp only); (try k_fold)))
local macro_rules | `(tactic| walk_at "eval Call Name cons nil") => `(tactic| ((with_reducible show wpAny _ _ (eval (Expr.Call (Expr.Name (PySem.Str.ofString "_law_at") _) _ _ _) _) _ _ _); refine Call_ ?_))
local macro_rules | `(tactic| walk_at "subscriptTail BinOp") => `(tactic| (k_here; k_dflt (refine kba_turn (value' := PySem.Expr.Name (PySem.Str.ofString "_") ⟨0, 0, 0, 0⟩) (fun _ => rfl) ?_)))
local macro_rules | `(tactic| walk_at "eval Subscript BinOp Slice") => `(tactic| ((fail_if_success (rename CutMark => x9)); k_extra "my row"))
local macro_rules | `(tactic| walk_at "ListEnd") => `(tactic| k_extra "my end")
local macro_rules | `(tactic| walk_at "call ref") => `(tactic| k_extra "my conv")
local macro_rules | `(tactic| walk_at "compareOp NotEq ref ref") => `(tactic| k_extra "my ne")
local macro_rules | `(tactic| walk_at "exec If Compare cons nil") => `(tactic| ((fail_if_success (rename CutMark => x9)); k_extra "my if"))
local macro_rules | `(tactic| walk_at "exec Assign cons ListComp") => `(tactic| ((fail_if_success (rename CutMark => x9)); k_extra "my comp"))
local macro_rules | `(tactic| walk_at "StEnd") => `(tactic| k_extra "my stend")
local macro_rules | `(tactic| walk_at "AsEnd") => `(tactic| k_extra "my asend")
local macro_rules | `(tactic| walk_at "subscriptTail Name Name ref int") => `(tactic| (k_here; (with_unfolding_all refine' item_anyK ?k1 ?k2 ?k3 ?k4 ?k5 ?_ ?k6); (case k6 => with_unfolding_all rfl); (case k1 => k_dflt (exact News.isList (by k_asm) (by k_mem))); (case k2 => k_dflt l_ints); (case k3 => assumption); (case k4 => exact rng_len (by assumption) (by assumption)); (case k5 => first | exact rng_fit4 (by assumption) (by assumption) (by assumption) | exact rng_fit32 (by assumption) (by assumption) (by assumption)); intro _))
local macro_rules | `(tactic| k_ne) => `(tactic| (refine neN ?_; (try dsimp only); first | exact off1_ne (by assumption) (by k_mem) | exact Ne.symm (off1_ne (by assumption) (by k_mem))))
local macro_rules | `(tactic| lcg_off) => `(tactic| assumption)
local macro_rules | `(tactic| walk_at "FinA") => `(tactic| ((unfold LCg.FinA); intro D' h' tk' F' N' o1'; (try simp only [List.nil_append, List.cons_append] at N'); (try dsimp only)))
local macro_rules | `(tactic| walk_at "FinE") => `(tactic| ((unfold LCg.FinE); intro D' h' tk' F' N' o1'; (try simp only [List.nil_append, List.cons_append] at N'); (try dsimp only)))
local macro_rules | `(tactic| walk_at "CompRest") => `(tactic| (with_unfolding_all first
  | (refine LCg.CompRest.succ ?_; intro v' I' oI' C' oC' D' m' h' tk' E' hv' hC' hx' F' N' off' ne'; (first | lcg_open hv' | (obtain ⟨t9', hv9'⟩ := hv'; subst hv9')))
  | refine LCg.CompRest.zero ?_))
local macro_rules | `(tactic| walk_at "CompSrcT") => `(tactic| (k_here; (rename CutMark => x9); k_dflt (refine LCt.CompSrcT.ledger (by rfl) (by k_asm) (by k_asm) (by k_mem) (by first | size_fits | exact Nat.le_of_ble_eq_true rfl) ?_; intro g')))
local macro_rules | `(tactic| walk_at "CompRestT") => `(tactic| (with_unfolding_all first
  | (refine LCt.CompRestT.succ ?_; intro v' I' oI' C' oC' D' m' h' tk' E' hv' hC' hx' F' N' off' ne'; (first | lcg_open hv' | (obtain ⟨t9', hv9'⟩ := hv'; subst hv9')))
  | refine LCt.CompRestT.zero ?_))
local macro_rules | `(tactic| walk_at "compareOp NotEq int int") => `(tactic| (k_here; refine ne_int_same (by with_reducible assumption) ?_))
local macro_rules | `(tactic| walk_at "exec If BoolOp cons nil") => `(tactic| ((fail_if_success (rename CutMark => x9)); k_extra "my ifb"))
local macro_rules | `(tactic| walk_at "WideEnd") => `(tactic| k_extra "my wideend")
local macro_rules | `(tactic| walk_at "CompSrc") => `(tactic| (k_here; k_dflt (refine LCg.CompSrc.range (by rfl) (by k_asm) (by k_asm) (by assumption) (by first | exact rng_small4 (by assumption) (by assumption) | exact rng_small32 (by assumption) (by assumption)) (by exact rangeSize_nat _ _) (by first | exact rng_line4 (by assumption) (by assumption) | exact rng_line32 (by assumption) (by assumption)) ?_; intro g'; (refine' kcf_range _ (fun k' t' I' oI' C' oC' D' m' ys' h' tk' E' hlo' hhi' hC' hx' F' N' off' ne' hMark' => ?_) ?_); kcf_last)))
local macro_rules | `(tactic| walk_at "compareOp Eq ref ref") => `(tactic| k_extra "my eq")
local macro_rules | `(tactic| walk_at "execs cons Assign cons") => `(tactic| ((fail_if_success (rename BodyMark => x9)); (with_reducible show wpAny _ _ (execs (PySem.Stmt.Assign (PySem.Expr.Name (PySem.Str.ofString "bare") _ :: _) _ _ :: _) _) _ _ _); k_extra "my body"))
local macro_rules | `(tactic| walk_at "BodyEnd") => `(tactic| k_extra "my bodyend")
local macro_rules | `(tactic| law_fin) => `(tactic| first | rfl | decide)
local macro_rules | `(tactic| w_fin) => `(tactic| rfl)
local macro_rules | `(tactic| wrow_close) => `(tactic| (w_end; (show GoodW _ _ _ _ _ (.ok (.ret (.bool _))) _); refine goodW_bool (by assumption) (by assumption) (raisesW_false ?_) ?_; ((· wrow_none_raised); (· exact postW_of (by wrow_shape) (w_eq_bool (w_res rfl) w_lit) rfl))))
set_option maxRecDepth 100000 in
set_option maxHeartbeats 8000000 in
theorem walked : PySem.Challenge.rw_oo0005_01.Holds := by
  refine Mine.hd ?_
  w_top off
  k_with_none
  k_with "my store" => ((with_reducible show wpAny _ _ (storeName _ (PySem.Str.ofString "old") (Value.int (1 + _) _)) _ _ _); refine gen_int 1 8 (fmod_rng (by decide)) ?_; intro old ho1 ho8)
  k_with "my store" => ((with_reducible show wpAny _ _ (storeName _ (PySem.Str.ofString "new") (Value.int (1 + _) _)) _ _ _); refine gen_int 1 8 (fmod_rng (by decide)) ?_; intro new hn1 hn8)
  k_with "my store" => ((with_reducible show wpAny _ _ (storeName _ (PySem.Str.ofString "count") (Value.int (1 + _) _)) _ _ _); refine gen_int 1 4 (fmod_rng (by decide)) ?_; intro count hc1 hc4; have hT := mul_rng ho1 ho8 hc1 hc4)
  k_with "my store" => ((with_reducible show wpAny _ _ (storeName _ (PySem.Str.ofString "place") (Value.int (Int.fmod _ _) _)) _ _ _); refine gen_int 0 (old * count - 1) (fmod_rng0 (by omega)) ?_; intro place hp0 hp1; have hpo := fmod_rng0 (x := place) (b := old) (by omega); have hpn := fmod_rng0 (x := place) (b := new) (by omega))
  k_with "my store" => ((with_reducible show wpAny _ _ (storeName _ (PySem.Str.ofString "size") (Value.int (Int.fdiv _ _) _)) _ _ _); refine gen_eq 1 32 (size_rng hT.1 hT.2 hn1 hn8) ?_; intro size hsz hsz1 hsz2)
  k_with "my store" => ((with_reducible show wpAny _ _ (storeName _ (PySem.Str.ofString "full") (Value.int (Int.fdiv _ _) _)) _ _ _); refine gen_eq 0 32 (full_rng hT.1 hT.2 hn1) ?_; intro full hfu hfu1 hfu2)
  k_with "my conv" => (k_here; k_dflt (refine' conv_pad' ?k1 ?k2 ?k3 ?k4 ?k5 ?kK ?kl ?ki ?kr ?ko1 ?ko8 ?kn1 ?kn8 ?kc4 ?kd ?ku ?_; (case k1 => k_asm); (case k2 => k_asm); (case k3 => k_asm); (case k4 => k_asm); (case k5 => k_asm); (case kK => first | exact rfl | assumption); (case kl => k_mem); (case ki => l_ints); (case kr => first | (with_reducible assumption)); (case ko1 => exact ho1); (case ko8 => exact ho8); (case kn1 => exact hn1); (case kn8 => exact hn8); (case kc4 => exact hc4); (case kd => ktr_room); (case ku => ktr_units)); intro q9 us9 n9 h9 tk9 cF9 cN9 cl9 ci9; (try simp only [AllLt, and_true] at cl9); (have hcl9 := conv_len (by with_reducible assumption) ho1 hn1 hc1 hsz ci9); (try dsimp only); (try k_fold))
  k_with "my conv" => (k_here; k_dflt (refine' conv_bare' ?k1 ?k2 ?k3 ?k4 ?k5 ?kK ?kl ?ki ?kr ?ko1 ?ko8 ?kn1 ?kn8 ?kc1 ?kc4 ?kd ?ku ?_ ?_; (case k1 => k_asm); (case k2 => k_asm); (case k3 => k_asm); (case k4 => k_asm); (case k5 => k_asm); (case kK => first | exact rfl | assumption); (case kl => k_mem); (case ki => l_ints); (case kr => first | (with_reducible assumption)); (case ko1 => exact ho1); (case ko8 => exact ho8); (case kn1 => exact hn1); (case kn8 => exact hn8); (case kc1 => exact hc1); (case kc4 => exact hc4); (case kd => ktr_room); (case ku => ktr_units)); (intro hC9 q9 us9 n9 h9 tk9 cF9 cN9 cl9 ci9; (try simp only [AllLt, and_true] at cl9); (try (have hC8 := (lone_cond' hlone ho1 ho8 hn1 hc1 hp0 hp1 hfu).mp hC9; clear hC9)); (try dsimp only); (try k_fold)); rotate_left; (intro hC9 h9 tk9 cF9 cN9; (try (have hC8 := mt (lone_cond' hlone ho1 ho8 hn1 hc1 hp0 hp1 hfu).mpr hC9; clear hC9)); (try dsimp only); (try k_fold)); rotate_right)
  k_with "my conv" => (k_here; k_dflt (refine' conv_bareT ?k1 ?k2 ?k3 ?k4 ?k5 ?kK ?kl ?ki ?kr ?ko1 ?ko8 ?kn1 ?kn8 ?kc1 ?kc4 ?kd ?ku ?kC ?_; (case k1 => k_asm); (case k2 => k_asm); (case k3 => k_asm); (case k4 => k_asm); (case k5 => k_asm); (case kK => first | exact rfl | assumption); (case kl => k_mem); (case ki => l_ints); (case kr => with_reducible assumption); (case ko1 => exact ho1); (case ko8 => exact ho8); (case kn1 => exact hn1); (case kn8 => exact hn8); (case kc1 => exact hc1); (case kc4 => exact hc4); (case kd => ktr_room); (case ku => ktr_units); (case kC => exact ⟨by with_reducible assumption, by with_reducible assumption⟩)); intro q9 us9 n9 h9 tk9 cF9 cN9 cl9 ci9; (try simp only [AllLt, and_true] at cl9); (try dsimp only); (try k_fold))
  k_with "my conv" => (k_here; k_dflt (refine' conv_bareF ?k1 ?k2 ?k3 ?k4 ?k5 ?kK ?kl ?ki ?kr ?ko1 ?ko8 ?kn1 ?kn8 ?kc1 ?kc4 ?kd ?ku ?kC ?_; (case k1 => k_asm); (case k2 => k_asm); (case k3 => k_asm); (case k4 => k_asm); (case k5 => k_asm); (case kK => first | exact rfl | assumption); (case kl => k_mem); (case ki => l_ints); (case kr => with_reducible assumption); (case ko1 => exact ho1); (case ko8 => exact ho8); (case kn1 => exact hn1); (case kn8 => exact hn8); (case kc1 => exact hc1); (case kc4 => exact hc4); (case kd => ktr_room); (case ku => ktr_units); (case kC => first | exact fun hx => absurd hx.1 (by with_reducible assumption) | exact fun hx => absurd hx.2 (by with_reducible assumption))); intro h9 tk9 cF9 cN9; (try dsimp only); (try k_fold))
  k_with "my eq" => (k_here; k_dflt (refine' eq_bare ?k1 ?k2 ?k3 ?k4 ?k5 ho1 hn1 hc1 ?kr hfu ?_ ?_; (case k1 => is_list); (case k2 => l_ints); (case k3 => is_list); (case k4 => exact IntsAre.nil); (case k5 => units_room); (case kr => with_reducible assumption)); (intro hz9; (try k_fold)); rotate_left; (intro hz9; (try k_fold)); rotate_right)
  k_with "my body" => (k_here; k_dflt (refine' cut_body ?cF ?cN ?_ ?_; (case cF => k_asm); (case cN => k_asm)); (intro cm9; try k_fold); rotate_left; (intro v9 h9 tk9 cF9 cN9; (try dsimp only); (try k_fold); (try k_sweep)); rotate_right)
  k_with "my bodyend" => (k_dflt (refine' body_end ?eF ?eN ?es; (case eF => k_asm); (case eN => k_asm); (case es => kst_inAny)))
  k_with "my ne" => (k_here; k_dflt (refine' ne_same ?k1 ?k2 ?k3 ?k4 ?k5 ?ke ?_; (case k1 => is_list); (case k2 => l_ints); (case k3 => is_list); (case k4 => l_ints); (case k5 => units_room); (case ke => first | exact lone_law' hlone hdue ho1 ho8 hn1 hc1 hp0 hp1 hsz | exact lone_bare' hlone hdue ho1 ho8 hn1 hc1 hp0 hp1 hsz hfu | exact rfl | exact law_and hboth ho1 ho8 hn1 hc1 hsz hF hS | exact law_or heither ho1 ho8 hn1 hc1 hsz hF hS | exact law_xor hparted ho1 ho8 hn1 hc1 hsz hF hS | exact (conv_take ho1 hn1 hc1 (by with_reducible assumption) hfu).symm)))
  k_with "my if" => (k_here; k_dflt (refine' cut_stmt ?cF ?cN ?_ ?_; (case cF => k_asm); (case cN => k_asm)); (intro cm9; try k_fold); rotate_left; (intro h9 tk9 cF9 cN9; (try dsimp only); (try k_fold); (try k_sweep)); rotate_right)
  k_with "my if" => ((with_reducible show wpAny _ _ (exec (PySem.Stmt.If (PySem.Expr.Compare _ _ (PySem.Expr.IfExp _ _ _ _ :: _) _) _ _ _) _) _ _ _); k_here; k_dflt (refine' cut_stmt ?cF ?cN ?_ ?_; (case cF => k_asm); (case cN => k_asm)); (intro cm9; try k_fold); rotate_left; (intro h9 tk9 cF9 cN9; replace cN9 := news_drop2 cN9; (try dsimp only); (try k_fold); (try k_sweep)); rotate_right)
  k_with "my stend" => (k_dflt (refine' st_end ?eF ?eN ?es; (case eF => k_asm); (case eN => k_asm); (case es => kst_inAny)))
  k_with "my asend" => (k_dflt (refine' as_end ?eF ?eN ?eD ?es ?el ?ei ?ep; (case eF => k_asm); (case eN => k_asm); (case eD => k_mem); (case es => kst_inAny); (case el => first | assumption | (simp only [LCg.Off1, and_true]; omega)); (case ei => l_ints); (case ep => exact rfl)))
  k_with "my comp" => ((with_reducible show wpAny _ _ (exec (PySem.Stmt.Assign (PySem.Expr.Name (PySem.Str.ofString "lone") _ :: _) _ _) _) _ _ _); k_here; k_dflt (refine' cut_assign (fun xs => xs = loneL old count place) ?cF ?cN ?_ ?_; (case cF => k_asm); (case cN => k_asm)); (intro cm9; try k_fold); rotate_left; (intro D9 ws9 lone n9 h9 tk9 cF9 cN9 cl9 ci9 hlone; have hloneR : Row old count lone := hlone ▸ lone_row ho1 ho8 hc1 hp0; have hloneL := Row.len hloneR; (try dsimp only); (try k_fold); (try k_sweep)); rotate_right)
  k_with "my comp" => ((with_reducible show wpAny _ _ (exec (PySem.Stmt.Assign (PySem.Expr.Name (PySem.Str.ofString "due") _ :: _) _ _) _) _ _ _); k_here; k_dflt (refine' cut_assign (fun xs => xs = loneL new size place) ?cF ?cN ?_ ?_; (case cF => k_asm); (case cN => k_asm)); (intro cm9; try k_fold); rotate_left; (intro D9 ws9 due n9 h9 tk9 cF9 cN9 cl9 ci9 hdue; (have hdueL := loneL_len hsz1 hdue); (try dsimp only); (try k_fold); (try k_sweep)); rotate_right)
  k_with "my comp" => ((with_reducible show wpAny _ _ (exec (PySem.Stmt.Assign (PySem.Expr.Name (PySem.Str.ofString "both") _ :: _) _ _) _) _ _ _); k_here; k_dflt (refine' cut_assign (fun xs => xs = combL Builtin.bitAnd count F S) ?cF ?cN ?_ ?_; (case cF => k_asm); (case cN => k_asm)); (intro cm9; try k_fold); rotate_left; (intro D9 ws9 both n9 h9 tk9 cF9 cN9 cl9 ci9 hboth; have hbothR : Row old count both := hboth ▸ comb_and ho1 ho8 hc1 hF hS; have hbothL := Row.len hbothR; (try dsimp only); (try k_fold); (try k_sweep)); rotate_right)
  k_with "my comp" => ((with_reducible show wpAny _ _ (exec (PySem.Stmt.Assign (PySem.Expr.Name (PySem.Str.ofString "either") _ :: _) _ _) _) _ _ _); k_here; k_dflt (refine' cut_assign (fun xs => xs = combL Builtin.bitOr count F S) ?cF ?cN ?_ ?_; (case cF => k_asm); (case cN => k_asm)); (intro cm9; try k_fold); rotate_left; (intro D9 ws9 either n9 h9 tk9 cF9 cN9 cl9 ci9 heither; have heitherR : Row old count either := heither ▸ comb_or ho1 ho8 hc1 hF hS; have heitherL := Row.len heitherR; (try dsimp only); (try k_fold); (try k_sweep)); rotate_right)
  k_with "my comp" => ((with_reducible show wpAny _ _ (exec (PySem.Stmt.Assign (PySem.Expr.Name (PySem.Str.ofString "parted") _ :: _) _ _) _) _ _ _); k_here; k_dflt (refine' cut_assign (fun xs => xs = combL Builtin.bitXor count F S) ?cF ?cN ?_ ?_; (case cF => k_asm); (case cN => k_asm)); (intro cm9; try k_fold); rotate_left; (intro D9 ws9 parted n9 h9 tk9 cF9 cN9 cl9 ci9 hparted; have hpartedR : Row old count parted := hparted ▸ comb_xor ho1 ho8 hc1 hF hS; have hpartedL := Row.len hpartedR; (try dsimp only); (try k_fold); (try k_sweep)); rotate_right)
  k_with "my ifb" => (k_here; k_dflt (refine' cut_stmt ?cF ?cN ?_ ?_; (case cF => k_asm); (case cN => k_asm)); (intro cm9; try k_fold); rotate_left; (intro h9 tk9 cF9 cN9; (try dsimp only); (try k_fold); (try k_sweep)); rotate_right)
  k_with "my comp" => ((with_reducible show wpAny _ _ (exec (PySem.Stmt.Assign (PySem.Expr.Name (PySem.Str.ofString "wide") _ :: _) _ _) _) _ _ _); k_here; k_dflt (refine' cut_wide (conv old.toNat new.toNat F) (conv old.toNat new.toNat S) (conv old.toNat new.toNat both) (conv old.toNat new.toNat either) (conv old.toNat new.toNat parted) ?cF ?cN ?_ ?_; (case cF => k_asm); (case cN => k_asm)); (intro cm9; try k_fold); rotate_left; (intro D9 q1 q2 q3 q4 q5 u1 u2 u3 u4 u5 n9 n1 n2 n3 n4 n5 h9 tk9 cF9 cN9 co9 cl9 i1 i2 i3 i4 i5; (try simp only [AllLt, and_true] at cl9); (have L1 := conv_len hF ho1 hn1 hc1 hsz i1); (have L2 := conv_len hS ho1 hn1 hc1 hsz i2); (have L3 := conv_len hbothR ho1 hn1 hc1 hsz i3); (have L4 := conv_len heitherR ho1 hn1 hc1 hsz i4); (have L5 := conv_len hpartedR ho1 hn1 hc1 hsz i5); (try dsimp only); (try k_fold); (try k_sweep)); rotate_right)
  k_with "my wideend" => (k_dflt (refine' wide_end ?eF ?eN ?es ?el ?ea ?e1 ?e2 ?e3 ?e4 ?e5; (case eF => k_asm); (case eN => k_asm); (case es => kst_allIn); (case el => exact off1_sub (by assumption) (by kst_allIn)); (case e1 => assumption); (case e2 => assumption); (case e3 => assumption); (case e4 => assumption); (case e5 => assumption); (case ea => (simp only [AllLt, and_true]; omega))))
  k_with "my row" => (k_dflt (refine' cut_list (Row old count) ?cF ?cN (fun _ hp => hp) ?_ ?_; (case cF => k_asm); (case cN => k_asm)); (intro cm9; try k_fold); rotate_left; (intro D9 ws9 F n9 h9 tk9 cF9 cN9 cl9 ci9 hF; (try simp only [AllLt, and_true] at cl9); (have hFL := Row.len hF); (try dsimp only); (try k_fold); (try k_sweep)); rotate_right)
  k_with "my row" => (have xF := hF; clear xF; k_dflt (refine' cut_list (Row old count) ?cF ?cN (fun _ hp => hp) ?_ ?_; (case cF => k_asm); (case cN => k_asm)); (intro cm9; try k_fold); rotate_left; (intro D9 ws9 S n9 h9 tk9 cF9 cN9 cl9 ci9 hS; (try simp only [AllLt, and_true] at cl9); (have hSL := Row.len hS); (try dsimp only); (try k_fold); (try k_sweep)); rotate_right)
  k_with "my end" => (refine' list_end ?eF ?eN ?eD ?es ?el ?ei ?ep; (case eF => k_asm); (case eN => k_asm); (case eD => k_mem); (case es => kst_inAny); (case el => (simp only [AllLt, and_true]; omega)); (case ei => l_ints); (case ep => first | exact row_P hc1 (by assumption) (by assumption) rfl))
  w_strict (k_go0; (all_goals try k_fold); k_steps)
end Mine
end
theorem PySem.Challenge.cw_oo0005_01_holds : PySem.Challenge.rw_oo0005_01.Holds :=
  Mine.walked
