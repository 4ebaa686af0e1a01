import PyProof.Rows.All
import Wide.All
import OpenK.AllK
import Wide.FinOn
import PySem.Challenge.RW_kn0018_01
open PySem PySem.W PySem.Calls PyProof.Rows
set_option Elab.async false

namespace Mine
set_option maxRecDepth 100000 in
set_option maxHeartbeats 8000000 in
open_top hd for PySem.Challenge.rw_kn0018_01
end Mine

namespace Mine
open Builtin (bitAnd bitOr bitXor bitNot)

theorem pow_cast (k : Nat) : ((2 ^ k : Nat) : Int) = (2 : Int) ^ k := by simp
theorem pow_pos' (k : Nat) : (0 : Int) < 2 ^ k := by rw [← pow_cast]; exact Int.natCast_pos.mpr (Nat.two_pow_pos k)

theorem bitAnd_nn {x y : Int} (hx : 0 ≤ x) (hy : 0 ≤ y) : bitAnd x y = ((x.toNat &&& y.toNat : Nat) : Int) := by
  unfold bitAnd; simp [hx, hy]
theorem bitNot_neg {x : Int} (hx : 0 ≤ x) : ¬ 0 ≤ bitNot x := by unfold bitNot; omega
theorem bitNot_not (x : Int) : bitNot (bitNot x) = x := by unfold bitNot; omega
theorem bitOr_nn {x y : Int} (hx : 0 ≤ x) (hy : 0 ≤ y) : bitOr x y = ((x.toNat ||| y.toNat : Nat) : Int) := by
  unfold bitOr bitAnd
  simp only [bitNot_neg hx, bitNot_neg hy, decide_false, bitNot_not]

theorem bitAnd_mask {x : Int} (hx : 0 ≤ x) (k : Nat) : bitAnd x (2 ^ k - 1) = x % 2 ^ k := by
  have hp := pow_pos' k
  rw [bitAnd_nn hx (by omega)]
  have e : ((2 : Int) ^ k - 1).toNat = 2 ^ k - 1 := by
    have := pow_cast k
    have h1 := Nat.two_pow_pos k
    omega
  rw [e, Nat.and_two_pow_sub_one_eq_mod]
  have hx' : ((x.toNat : Nat) : Int) = x := Int.toNat_of_nonneg hx
  rw [Int.natCast_emod, hx', pow_cast]

theorem bitOr_shl {x y : Int} (hx : 0 ≤ x) (hy : 0 ≤ y) {k : Nat} (h : y < 2 ^ k) : bitOr (x * 2 ^ k) y = x * 2 ^ k + y := by
  have hp := pow_pos' k
  have hxk : 0 ≤ x * 2 ^ k := Int.mul_nonneg hx (by omega)
  rw [bitOr_nn hxk hy]
  have hx' : ((x.toNat : Nat) : Int) = x := Int.toNat_of_nonneg hx
  have hy' : ((y.toNat : Nat) : Int) = y := Int.toNat_of_nonneg hy
  have e : (x * 2 ^ k).toNat = 2 ^ k * x.toNat := by
    have : ((2 ^ k * x.toNat : Nat) : Int) = x * 2 ^ k := by rw [Int.natCast_mul, hx', pow_cast, Int.mul_comm]
    omega
  have hl : y.toNat < 2 ^ k := by
    have := pow_cast k
    omega
  rw [e, ← Nat.two_pow_add_eq_or_of_lt hl, Int.natCast_add, Int.natCast_mul, hx', hy', pow_cast, Int.mul_comm]

theorem fdiv_pow {x : Int} (k : Nat) : x.fdiv (2 ^ k) = x / 2 ^ k := by
  have hp := pow_pos' k
  rw [Int.fdiv_eq_ediv_of_nonneg x (by omega)]

theorem bitXor_high {x : Int} (hx : 0 ≤ x) (k : Nat) : bitXor x (x / 2 ^ k * 2 ^ k) = x % 2 ^ k := by
  have hp := pow_pos' k
  rw [bitXor_and]
  have h0 : 0 ≤ x / 2 ^ k * 2 ^ k := Int.mul_nonneg (Int.ediv_nonneg hx (by omega)) (by omega)
  have key : bitAnd x (x / 2 ^ k * 2 ^ k) = x / 2 ^ k * 2 ^ k := by
    rw [bitAnd_nn hx h0]
    have hx' : ((x.toNat : Nat) : Int) = x := Int.toNat_of_nonneg hx
    have e : (x / 2 ^ k * 2 ^ k).toNat = (x.toNat >>> k) <<< k := by
      have : ((((x.toNat >>> k) <<< k : Nat)) : Int) = x / 2 ^ k * 2 ^ k := by
        rw [Nat.shiftLeft_eq, Nat.shiftRight_eq_div_pow, Int.natCast_mul, Int.natCast_ediv, hx', pow_cast]
      omega
    have e2 : x.toNat &&& ((x.toNat >>> k) <<< k) = (x.toNat >>> k) <<< k := by
      apply Nat.eq_of_testBit_eq
      intro i
      simp only [Nat.testBit_and, Nat.testBit_shiftLeft, Nat.testBit_shiftRight]
      by_cases hi : k ≤ i
      · have : k + (i - k) = i := by omega
        simp [hi, this]
      · simp [hi]
    rw [e, e2]
    rw [← e]
    exact Int.toNat_of_nonneg h0
  rw [key]
  have := Int.mul_ediv_add_emod x (2 ^ k)
  have h2 : (2 : Int) ^ k * (x / 2 ^ k) = x / 2 ^ k * 2 ^ k := Int.mul_comm _ _
  omega

theorem no_pyl {a b : Int} (h : Builtin.Int.intBits b ≤ 9000) : Builtin.divisionGoesByPylong a b = false := by
  unfold Builtin.divisionGoesByPylong
  unfold Builtin.Int.intBits at h
  by_cases hb : (b == 0) = true
  · simp [hb]
  · simp only [hb] at h ⊢
    simp only [Bool.and_eq_false_iff, decide_eq_false_iff_not]
    left
    simp only [Bool.false_eq_true, if_false] at h ⊢
    omega

end Mine

namespace Mine
open Builtin (bitAnd bitOr bitXor bitNot)

theorem fdm_of {A b q r : Int} (hb : 0 < b) (h : q * b + r = A) (h0 : 0 ≤ r) (h1 : r < b) : A.fdiv b = q ∧ A.fmod b = r := by
  rw [Int.fdiv_eq_ediv_of_nonneg _ (by omega), Int.fmod_eq_emod_of_nonneg _ (by omega)]
  exact (Int.ediv_emod_unique hb).mpr ⟨by rw [Int.mul_comm b q]; omega, h0, h1⟩
theorem fdm_spec {A b : Int} (hb : 0 < b) : A.fdiv b * b + A.fmod b = A ∧ 0 ≤ A.fmod b ∧ A.fmod b < b := by
  refine ⟨?_, Int.fmod_nonneg_of_pos A hb, Int.fmod_lt_of_pos A hb⟩
  have := Int.mul_fdiv_add_fmod A b
  rw [Int.mul_comm] at this; exact this
theorem bits_lt {x : Int} {k : Nat} (h0 : 0 ≤ x) (h : x < 2 ^ k) : Builtin.Int.intBits x ≤ k := by
  rw [PySem.intBits_le_iff]
  have := pow_cast k
  omega
theorem pow_le_pow' {j k : Nat} (h : j ≤ k) : (2 : Int) ^ j ≤ 2 ^ k := by
  rw [← pow_cast, ← pow_cast]; exact Int.ofNat_le.mpr (Nat.pow_le_pow_right (by decide) h)
theorem pow_add' (j k : Nat) : (2 : Int) ^ (j + k) = 2 ^ j * 2 ^ k := Int.pow_add 2 j k

/-- the sizes in a division of three halves by two -/
theorem div3_bits {P b b1 b2 a12 a3 : Int} {n : Int} (hn : 0 ≤ n) (hP : P = 2 ^ n.toNat) (hb : b = b1 * P + b2) (h20 : 0 ≤ b2) (h21 : b2 < P) (h10 : 0 < b1) (h11 : b1 < P)
    (ha : 0 ≤ a12) (h30 : 0 ≤ a3) (hA : a12 * P + a3 < P * b) : 0 < b ∧ b < 2 ^ (2 * n.toNat) ∧ a12 < 2 ^ (2 * n.toNat) := by
  have hp : 0 < P := hP ▸ pow_pos' _
  have e : (2 : Int) ^ (2 * n.toNat) = P * P := by rw [hP, ← pow_add']; congr 1; omega
  have k1 : b1 * P + P ≤ P * P := by
    have := Int.mul_le_mul_of_nonneg_right (show b1 + 1 ≤ P by omega) (show 0 ≤ P by omega)
    rw [Int.add_mul, Int.one_mul] at this; exact this
  have k0 : 0 < b1 * P := Int.mul_pos h10 hp
  have k2 : a12 < b := by
    have : P * a12 < P * b := by rw [Int.mul_comm P a12]; omega
    exact Int.lt_of_mul_lt_mul_left this (by omega)
  rw [e]
  omega

/-- the quotient is taken too large by the mask -/
theorem div3_top {P b b1 b2 a12 a3 : Int} {k : Nat} (hP : P = 2 ^ k) (hb : b = b1 * P + b2) (h20 : 0 ≤ b2) (h21 : b2 < P) (h10 : 0 < b1)
    (ha : 0 ≤ a12) (h30 : 0 ≤ a3) (h31 : a3 < P) (hA : a12 * P + a3 < P * b) (hq : a12.fdiv P = b1) :
    (1 * P - 1) * b + (bitOr ((a12 - b1 * P + b1) * P) a3 - (1 * P - 1) * b2) = a12 * P + a3 ∧ bitOr ((a12 - b1 * P + b1) * P) a3 - (1 * P - 1) * b2 < b := by
  have hp : 0 < P := hP ▸ pow_pos' _
  obtain ⟨f1, f2, f3⟩ := fdm_spec (A := a12) hp
  rw [hq] at f1
  have hr : 0 ≤ a12 - b1 * P + b1 := by omega
  have e : bitOr ((a12 - b1 * P + b1) * P) a3 = (a12 - b1 * P + b1) * P + a3 := by
    subst hP; exact bitOr_shl hr h30 h31
  rw [e]
  constructor
  · rw [hb]; grind
  · have : (a12 - b1 * P + b1) * P + a3 - (1 * P - 1) * b2 = a12 * P + a3 - P * b + b := by rw [hb]; grind
    omega

/-- the quotient is taken by the upper half -/
theorem div3_low {P b b1 b2 a12 a3 : Int} {k : Nat} (hP : P = 2 ^ k) (hb : b = b1 * P + b2) (h20 : 0 ≤ b2) (h21 : b2 < P) (h10 : 0 < b1)
    (ha : 0 ≤ a12) (h30 : 0 ≤ a3) (h31 : a3 < P) :
    a12.fdiv b1 * b + (bitOr (a12.fmod b1 * P) a3 - a12.fdiv b1 * b2) = a12 * P + a3 ∧ bitOr (a12.fmod b1 * P) a3 - a12.fdiv b1 * b2 < b := by
  have hp : 0 < P := hP ▸ pow_pos' _
  obtain ⟨f1, f2, f3⟩ := fdm_spec (A := a12) h10
  have e : bitOr (a12.fmod b1 * P) a3 = a12.fmod b1 * P + a3 := by
    subst hP; exact bitOr_shl f2 h30 h31
  rw [e]
  generalize a12.fdiv b1 = q at *
  generalize a12.fmod b1 = r at *
  have hq : 0 ≤ q := by
    rcases (show q < 0 ∨ 0 ≤ q by omega) with h | h
    · have : q * b1 ≤ -1 * b1 := Int.mul_le_mul_of_nonneg_right (by omega) (by omega)
      omega
    · exact h
  constructor
  · rw [hb, ← f1]; grind
  · have k1 : r * P + P ≤ b1 * P := by
      have := Int.mul_le_mul_of_nonneg_right (show r + 1 ≤ b1 by omega) (show 0 ≤ P by omega)
      rw [Int.add_mul, Int.one_mul] at this; exact this
    have k2 : 0 ≤ q * b2 := Int.mul_nonneg hq h20
    omega
end Mine

namespace Mine
open Builtin (bitAnd bitOr bitXor bitNot)

theorem div2_pre {a b H : Int} {k : Nat} (hH : H = 2 ^ k) (hb0 : H ≤ b) (hb1 : b < H * H) (ha : 0 ≤ a) (ha1 : a < H * H * b) :
    b = b / H * H + b % H ∧ 0 ≤ b % H ∧ b % H < H ∧ 0 < b / H ∧ b / H < H ∧ 0 ≤ a / (H * H) ∧ 0 ≤ a / H % H ∧ a / H % H < H ∧ a / (H * H) * H + a / H % H = a / H ∧ a / H < H * b := by
  have hp : 0 < H := hH ▸ pow_pos' _
  have e1 := Int.ediv_mul_add_emod b H
  have e2 := Int.emod_nonneg b (show H ≠ 0 by omega)
  have e3 := Int.emod_lt_of_pos b hp
  have e4 := Int.emod_nonneg (a / H) (show H ≠ 0 by omega)
  have e5 := Int.emod_lt_of_pos (a / H) hp
  have e6 : a / (H * H) = a / H / H := by rw [Int.ediv_ediv_of_nonneg (by omega)]
  have e7 := Int.ediv_mul_add_emod (a / H) H
  have e8 : 0 ≤ a / H := Int.ediv_nonneg ha (by omega)
  refine ⟨e1.symm, e2, e3, (Int.le_ediv_iff_mul_le hp).mpr (by omega), (Int.ediv_lt_iff_lt_mul hp).mpr hb1, ?_, e4, e5, by rw [e6]; exact e7, (Int.ediv_lt_iff_lt_mul hp).mpr (by rw [Int.mul_comm _ H, ← Int.mul_assoc]; exact ha1)⟩
  rw [e6]; exact Int.ediv_nonneg e8 (by omega)

theorem div2_join {a b H : Int} {k : Nat} (hH : H = 2 ^ k) (hb : 0 < b) (ha : 0 ≤ a) (ha1 : a / H < H * b) :
    0 ≤ (a / H).fmod b ∧ 0 ≤ a % H ∧ a % H < H ∧ (a / H).fmod b * H + a % H < H * b ∧
    bitOr ((a / H).fdiv b * H) (((a / H).fmod b * H + a % H).fdiv b) = a.fdiv b ∧ ((a / H).fmod b * H + a % H).fmod b = a.fmod b := by
  have hp : 0 < H := hH ▸ pow_pos' _
  obtain ⟨f1, f2, f3⟩ := fdm_spec (A := a / H) hb
  have g1 := Int.ediv_mul_add_emod a H
  have g2 := Int.emod_nonneg a (show H ≠ 0 by omega)
  have g3 := Int.emod_lt_of_pos a hp
  have hq : 0 ≤ (a / H).fdiv b := by
    rw [Int.fdiv_eq_ediv_of_nonneg _ (by omega)]; exact Int.ediv_nonneg (Int.ediv_nonneg ha (by omega)) (by omega)
  generalize (a / H).fmod b = r at *
  generalize (a / H).fdiv b = q at *
  generalize a % H = l at *
  have lt : r * H + l < H * b := by
    have : (r + 1) * H ≤ b * H := Int.mul_le_mul_of_nonneg_right (by omega) (by omega)
    rw [Int.add_mul, Int.one_mul, Int.mul_comm b] at this
    omega
  have h0 : 0 ≤ r * H + l := by
    have : 0 ≤ r * H := Int.mul_nonneg f2 (by omega)
    omega
  obtain ⟨j1, j2, j3⟩ := fdm_spec (A := r * H + l) hb
  have j4 : 0 ≤ (r * H + l).fdiv b := by
    rw [Int.fdiv_eq_ediv_of_nonneg _ (by omega)]; exact Int.ediv_nonneg h0 (by omega)
  have j5 : (r * H + l).fdiv b < H := by
    rw [Int.fdiv_eq_ediv_of_nonneg _ (by omega)]; exact (Int.ediv_lt_iff_lt_mul hb).mpr lt
  generalize (r * H + l).fdiv b = q2 at *
  generalize (r * H + l).fmod b = r2 at *
  have e : bitOr (q * H) q2 = q * H + q2 := by subst hH; exact bitOr_shl hq j4 j5
  obtain ⟨k1, k2⟩ := fdm_of (A := a) (q := q * H + q2) (r := r2) hb (by rw [← g1, ← f1]; grind) j2 j3
  exact ⟨f2, g2, g3, lt, by rw [e, k1], k2.symm⟩

theorem fdm_double {a b : Int} (hb : 0 < b) : (a * 2).fdiv (b * 2) = a.fdiv b ∧ (a * 2).fmod (b * 2) = a.fmod b * 2 := by
  obtain ⟨f1, f2, f3⟩ := fdm_spec (A := a) hb
  exact fdm_of (by omega) (by rw [← Int.mul_assoc]; omega) (by omega) (by omega)

section
open PyProof.Rows
variable {prog : Program} {w : World} {A : Around} {E : Value → Shared → Prop} {s : Shared} {a b n : Int} {t u : Tok} {Q : Value → Shared → Prop}
theorem rshift_e (hn : 0 ≤ n) (h : Q (.int (a / 2 ^ n.toNat) s.toks) { s with toks := s.toks + 1 }) : wpAny (model prog w) A (binaryOp .RShift (.int a t) (.int n u)) Q E s :=
  rshift_int hn (by rw [fdiv_pow]; exact h)
theorem rshift_1 (h : Q (.int (a / 2) s.toks) { s with toks := s.toks + 1 }) : wpAny (model prog w) A (binaryOp .RShift (.int a t) (.int 1 u)) Q E s :=
  rshift_e (by decide) h
theorem irshift_1 (h : Q (.int (a / 2) s.toks) { s with toks := s.toks + 1 }) : wpAny (model prog w) A (inplaceOp .RShift (.int a t) (.int 1 u)) Q E s :=
  irshift_int (by decide) (by rw [fdiv_pow]; exact h)
theorem ilshift_1 (hb : Builtin.Int.intBits a ≤ 1000000) (h : Q (.int (a * 2) s.toks) { s with toks := s.toks + 1 }) : wpAny (model prog w) A (inplaceOp .LShift (.int a t) (.int 1 u)) Q E s :=
  ilshift_int (by decide) (by omega) h
theorem and_mask {k : Nat} (ha : 0 ≤ a) (h : Q (.int (a % 2 ^ k) s.toks) { s with toks := s.toks + 1 }) : wpAny (model prog w) A (binaryOp .BitAnd (.int a t) (.int (2 ^ k - 1) u)) Q E s :=
  and_int (by rw [bitAnd_mask ha]; exact h)
theorem and_1 (h : Q (.int (a % 2) s.toks) { s with toks := s.toks + 1 }) : wpAny (model prog w) A (binaryOp .BitAnd (.int a t) (.int 1 u)) Q E s :=
  and_int (by rw [bitAnd_m1]; exact h)
theorem floordiv_e (hb : 0 < b) (hbb : Builtin.Int.intBits b ≤ 9000) (h : Q (.int (a / b) s.toks) { s with toks := s.toks + 1 }) : wpAny (model prog w) A (binaryOp .FloorDiv (.int a t) (.int b u)) Q E s :=
  floordiv_int (by omega) (by rw [Int.fdiv_eq_ediv_of_nonneg _ (by omega)]; exact h) (.inl (no_pyl hbb))
theorem xor_high {k : Nat} (ha : 0 ≤ a) (h : Q (.int (a % 2 ^ k) s.toks) { s with toks := s.toks + 1 }) : wpAny (model prog w) A (binaryOp .BitXor (.int a t) (.int (a / 2 ^ k * 2 ^ k) u)) Q E s :=
  xor_int (by rw [bitXor_high ha]; exact h)
theorem bits_ediv {x y : Int} {m : Nat} (hx : Builtin.Int.intBits x ≤ m) : Builtin.Int.intBits (x / y) ≤ m := PySem.intBits_le_of_natAbs (Int.natAbs_ediv_le_natAbs x y) hx
theorem one_shl (hn : 0 ≤ n) (hn2 : n ≤ 1000000) (h : Q (.int (2 ^ n.toNat) s.toks) { s with toks := s.toks + 1 }) : wpAny (model prog w) A (binaryOp .LShift (.int 1 t) (.int n u)) Q E s :=
  lshift_int_small hn hn2 (by decide) (by rw [Int.one_mul]; exact h)
end
end Mine

namespace Mine

/-- the part of a list that holds an int's digits -/
def Filled (n x : Int) (L R : Int) (ns ns' : List Int) : Prop :=
  ns'.length = ns.length ∧ ∀ j : Nat, j < ns.length → ns'.getD j 0 = if L ≤ j ∧ (j : Int) < R then x / 2 ^ (n * (j - L)).toNat % 2 ^ n.toNat else ns.getD j 0

theorem emod_mul_div {x A B : Int} (hA : 0 < A) (hB : 0 < B) : x % (A * B) / A = x / A % B := by
  have h1 := Int.ediv_mul_add_emod x (A * B)
  have h2 := Int.emod_nonneg x (show A * B ≠ 0 from Int.ne_of_gt (Int.mul_pos hA hB))
  have h3 := Int.emod_lt_of_pos x (Int.mul_pos hA hB)
  generalize x % (A * B) = r at *
  generalize x / (A * B) = q at *
  have e : x / A = q * B + r / A := by
    have : x = r + A * (q * B) := by rw [← h1]; grind
    rw [this, Int.add_mul_ediv_left _ _ (Int.ne_of_gt hA)]; omega
  have h4 : 0 ≤ r / A := Int.ediv_nonneg h2 (by omega)
  have h5 : r / A < B := (Int.ediv_lt_iff_lt_mul hA).mpr (by rw [Int.mul_comm B A]; exact h3)
  have h6 : q * B + r / A = r / A + B * q := by rw [Int.mul_comm q B]; omega
  rw [e, h6, Int.add_mul_emod_self_left, Int.emod_eq_of_lt h4 h5]

theorem low_digit {x : Int} {s e k : Nat} (h : e + k ≤ s) : x % 2 ^ s / 2 ^ e % 2 ^ k = x / 2 ^ e % 2 ^ k := by
  obtain ⟨t, rfl⟩ : ∃ t, s = e + (k + t) := ⟨s - e - k, by omega⟩
  rw [pow_add', emod_mul_div (pow_pos' _) (pow_pos' _), pow_add', Int.emod_emod_of_dvd _ (Int.dvd_mul_right _ _)]

theorem filled_leaf {n x L R : Int} {ns : List Int} (hn : 1 ≤ n) (h0 : 0 ≤ L) (hR : R ≤ ns.length) (e : L + 1 = R) (hx0 : 0 ≤ x) (hx1 : x < 2 ^ (n * (R - L)).toNat) : Filled n x L R ns (ns.set L.toNat x) := by
  refine ⟨List.length_set .., fun j hj => ?_⟩
  have hRL : R - L = 1 := by omega
  rw [hRL, Int.mul_one] at hx1
  by_cases h : L ≤ j ∧ (j : Int) < R
  · rw [if_pos h]
    have hjL : j = L.toNat := by omega
    subst hjL
    have : ((L.toNat : Nat) : Int) - L = 0 := by omega
    rw [this, Int.mul_zero]
    simp only [List.getD_eq_getElem?_getD, List.getElem?_set_self hj, Option.getD_some]
    simp only [Int.toNat_zero, Int.pow_zero, Int.ediv_one]
    exact (Int.emod_eq_of_lt hx0 hx1).symm
  · rw [if_neg h]
    have hne : L.toNat ≠ j := by omega
    simp only [List.getD_eq_getElem?_getD, List.getElem?_set_ne hne]

theorem filled_join {n x L M R : Int} {ns n1 n2 : List Int} (hn : 1 ≤ n) (hLM : L ≤ M) (hMR : M ≤ R)
    (h1 : Filled n (x % 2 ^ ((M - L) * n).toNat) L M ns n1) (h2 : Filled n (x / 2 ^ ((M - L) * n).toNat) M R n1 n2) : Filled n x L R ns n2 := by
  obtain ⟨l1, h1⟩ := h1
  obtain ⟨l2, h2⟩ := h2
  refine ⟨l2.trans l1, fun j hj => ?_⟩
  rw [h2 j (by omega)]
  by_cases hM : M ≤ j ∧ (j : Int) < R
  · rw [if_pos hM, if_pos (by omega)]
    have a1 : 0 ≤ (M - L) * n := Int.mul_nonneg (by omega) (by omega)
    have a2 : 0 ≤ n * ((j : Int) - M) := Int.mul_nonneg (by omega) (by omega)
    have a3 : n * ((j : Int) - L) = (M - L) * n + n * ((j : Int) - M) := by grind
    have e : (n * ((j : Int) - L)).toNat = ((M - L) * n).toNat + (n * ((j : Int) - M)).toNat := by rw [a3]; omega
    rw [e, pow_add', Int.ediv_ediv_of_nonneg (Int.le_of_lt (pow_pos' _))]
  · rw [if_neg hM, h1 j hj]
    by_cases hL : L ≤ j ∧ (j : Int) < R
    · rw [if_pos hL, if_pos (by omega)]
      refine low_digit ?_
      have a1 : (M - L) * n = n * ((j : Int) - L) + n + n * (M - j - 1) := by grind
      have a2 : 0 ≤ n * ((j : Int) - L) := Int.mul_nonneg (by omega) (by omega)
      have a4 : 0 ≤ n * (M - j - 1) := Int.mul_nonneg (by omega) (by omega)
      omega
    · rw [if_neg hL, if_neg (by omega)]

/-- the halves' sizes -/
theorem half_sizes {n x L R : Int} {dd : Nat} (hn : 1 ≤ n) (h0 : 0 ≤ L) (hLR : L + 1 < R) (hd : R - L ≤ 2 ^ (dd + 1)) (hx0 : 0 ≤ x) (hx1 : x < 2 ^ (n * (R - L)).toNat) (hsz : n * (R - L) ≤ 100000) :
    L < (L + R) / 2 ∧ (L + R) / 2 < R ∧ (L + R) / 2 - L ≤ 2 ^ dd ∧ R - (L + R) / 2 ≤ 2 ^ dd ∧ 0 ≤ ((L + R) / 2 - L) * n ∧ ((L + R) / 2 - L) * n ≤ 100000 ∧
      x % 2 ^ (((L + R) / 2 - L) * n).toNat < 2 ^ (n * ((L + R) / 2 - L)).toNat ∧ x / 2 ^ (((L + R) / 2 - L) * n).toNat < 2 ^ (n * (R - (L + R) / 2)).toNat ∧
      n * ((L + R) / 2 - L) ≤ 100000 ∧ n * (R - (L + R) / 2) ≤ 100000 := by
  have hd' : R - L ≤ 2 * 2 ^ dd := by rw [Int.pow_succ] at hd; omega
  have m1 : L < (L + R) / 2 := by omega
  have m2 : (L + R) / 2 < R := by omega
  have m3 : (L + R) / 2 - L ≤ 2 ^ dd := by generalize (2 : Int) ^ dd = P at *; omega
  have m4 : R - (L + R) / 2 ≤ 2 ^ dd := by generalize (2 : Int) ^ dd = P at *; omega
  generalize (L + R) / 2 = M at *
  have a1 : 0 ≤ (M - L) * n := Int.mul_nonneg (by omega) (by omega)
  have a2 : 0 ≤ n * (R - M) := Int.mul_nonneg (by omega) (by omega)
  have a3 : n * (R - L) = (M - L) * n + n * (R - M) := by grind
  have a4 : n * (M - L) = (M - L) * n := Int.mul_comm _ _
  refine ⟨m1, m2, m3, m4, a1, by omega, by rw [a4]; exact Int.emod_lt_of_pos _ (pow_pos' _), ?_, by omega, by omega⟩
  refine (Int.ediv_lt_iff_lt_mul (pow_pos' _)).mpr ?_
  rw [← pow_add']
  have e : (n * (R - M)).toNat + ((M - L) * n).toNat = (n * (R - L)).toNat := by omega
  rw [e]; exact hx1
end Mine

namespace Mine
/-- the number that digits make -/
noncomputable def dsum (n : Nat) (ns : List Int) : Nat → Nat → Int
  | _, 0 => 0
  | L, k + 1 => ns.getD L 0 + 2 ^ n * dsum n ns (L + 1) k

theorem dsum_add (n : Nat) (ns : List Int) : ∀ (j L k : Nat), dsum n ns L (j + k) = dsum n ns L j + 2 ^ (n * j) * dsum n ns (L + j) k
  | 0, L, k => by simp [dsum]
  | j + 1, L, k => by
    rw [show j + 1 + k = (j + k) + 1 by omega]
    simp only [dsum]
    rw [dsum_add n ns j (L + 1) k, show n * (j + 1) = n + n * j by rw [Nat.mul_succ]; omega, pow_add', show L + 1 + j = L + (j + 1) by omega]
    grind

theorem dsum_bound {n : Nat} {ns : List Int} (h : ∀ d ∈ ns, 0 ≤ d ∧ d < 2 ^ n) : ∀ (k L : Nat), 0 ≤ dsum n ns L k ∧ dsum n ns L k < 2 ^ (n * k)
  | 0, L => by simp [dsum]
  | k + 1, L => by
    obtain ⟨a, b⟩ := dsum_bound h k (L + 1)
    have hd : 0 ≤ ns.getD L 0 ∧ ns.getD L 0 < 2 ^ n := by
      by_cases hL : L < ns.length
      · have e : ns.getD L 0 = ns[L] := by simp [List.getD, hL]
        rw [e]; exact h _ (List.getElem_mem hL)
      · have e : ns.getD L 0 = 0 := by simp [List.getD, Nat.not_lt.mp hL]
        rw [e]; exact ⟨by omega, pow_pos' n⟩
    have hp := pow_pos' n
    simp only [dsum]
    rw [show n * (k + 1) = n + n * k by rw [Nat.mul_succ]; omega, pow_add']
    have h1 : 0 ≤ 2 ^ n * dsum n ns (L + 1) k := Int.mul_nonneg (by omega) a
    have h2 : (2 : Int) ^ n * (dsum n ns (L + 1) k + 1) ≤ 2 ^ n * 2 ^ (n * k) := Int.mul_le_mul_of_nonneg_left (by omega) (by omega)
    rw [Int.mul_add, Int.mul_one] at h2
    omega

/-- the halves of a list of digits -/
theorem dsum_join {n L R : Int} {ns : List Int} {M : Int} (hn : 1 ≤ n) (h0 : 0 ≤ L) (hLM : L ≤ M) (hMR : M ≤ R) :
    dsum n.toNat ns M.toNat (R - M).toNat * 2 ^ ((M - L) * n).toNat + dsum n.toNat ns L.toNat (M - L).toNat = dsum n.toNat ns L.toNat (R - L).toNat := by
  have e1 : (R - L).toNat = (M - L).toNat + (R - M).toNat := by omega
  have e2 : ((M - L) * n).toNat = n.toNat * (M - L).toNat := by
    have : (((M - L) * n).toNat : Int) = ((n.toNat * (M - L).toNat : Nat) : Int) := by
      rw [Int.natCast_mul, Int.toNat_of_nonneg (Int.mul_nonneg (by omega) (by omega)), Int.toNat_of_nonneg (by omega), Int.toNat_of_nonneg (by omega), Int.mul_comm]
    omega
  have e3 : L.toNat + (M - L).toNat = M.toNat := by omega
  rw [e1, dsum_add, e2, e3]
  grind
theorem dsum_bits {n L R : Int} {ns : List Int} (hn : 1 ≤ n) (h : ∀ d ∈ ns, 0 ≤ d ∧ d < 2 ^ n.toNat) (k : Nat) (hR : R - L = k) (hsz : n * (R - L) ≤ 100000) : Builtin.Int.intBits (dsum n.toNat ns L.toNat (R - L).toNat) ≤ 100000 := by
  obtain ⟨a, b⟩ := dsum_bound h (R - L).toNat L.toNat
  refine Nat.le_trans (bits_lt a b) ?_
  have : ((n.toNat * (R - L).toNat : Nat) : Int) = n * (R - L) := by
    rw [Int.natCast_mul, Int.toNat_of_nonneg (by omega), Int.toNat_of_nonneg (by omega)]
  omega
/-- an int is the number of its digits -/
theorem dsum_digits {n : Nat} {ns : List Int} {a : Int} (h : ∀ j : Nat, j < ns.length → ns.getD j 0 = a / 2 ^ (n * j) % 2 ^ n) : ∀ k L : Nat, L + k ≤ ns.length → dsum n ns L k = a / 2 ^ (n * L) % 2 ^ (n * k)
  | 0, L, _ => by simp [dsum, Int.emod_one]
  | k + 1, L, hk => by
    simp only [dsum]
    rw [h L (by omega), dsum_digits h k (L + 1) (by omega)]
    have hp := pow_pos' n
    have e : a / 2 ^ (n * (L + 1)) = a / 2 ^ (n * L) / 2 ^ n := by
      rw [Int.ediv_ediv_of_nonneg (Int.le_of_lt (pow_pos' _)), ← pow_add']; rfl
    rw [e]
    generalize a / 2 ^ (n * L) = x
    rw [show n * (k + 1) = n + n * k by rw [Nat.mul_succ]; omega, pow_add', ← emod_mul_div hp (pow_pos' _)]
    have h1 := Int.ediv_mul_add_emod (x % (2 ^ n * 2 ^ (n * k))) (2 ^ n)
    rw [Int.emod_emod_of_dvd _ (Int.dvd_mul_right _ _)] at h1
    rw [Int.mul_comm (2 ^ n) (x % _ / _)]
    omega
end Mine

namespace Mine
theorem dsum_cons (n : Nat) (q : Int) (l : List Int) : ∀ k L : Nat, dsum n (q :: l) (L + 1) k = dsum n l L k
  | 0, _ => rfl
  | k + 1, L => by simp only [dsum, dsum_cons n q l k (L + 1), List.getD_cons_succ]
/-- the number that digits make, the greatest first -/
noncomputable def qval (n : Nat) (qs : List Int) : Int := dsum n qs.reverse 0 qs.length
theorem qval_nil (n : Nat) : qval n [] = 0 := rfl
theorem qval_snoc (n : Nat) (qs : List Int) (q : Int) : qval n (qs ++ [q]) = qval n qs * 2 ^ n + q := by
  unfold qval
  rw [List.reverse_append, List.length_append]
  show dsum n (q :: qs.reverse) 0 (qs.length + 1) = _
  simp only [dsum, List.getD_cons_zero]
  rw [dsum_cons]
  rw [Int.mul_comm]; omega
theorem bits_exact {b : Int} (hb : 0 < b) : 1 ≤ Builtin.Int.intBits b ∧ (2 : Int) ^ (Builtin.Int.intBits b - 1) ≤ b ∧ b < 2 ^ Builtin.Int.intBits b := by
  have h1 : b.natAbs < 2 ^ Builtin.Int.intBits b := PySem.intBits_le_iff.mp (Nat.le_refl _)
  have h2 : 1 ≤ Builtin.Int.intBits b := by
    rcases Nat.eq_zero_or_pos (Builtin.Int.intBits b) with h | h
    · rw [h] at h1; simp at h1; omega
    · exact h
  have h3 : ¬ b.natAbs < 2 ^ (Builtin.Int.intBits b - 1) := fun h => by
    have := PySem.intBits_le_iff.mpr h
    omega
  have e1 := pow_cast (Builtin.Int.intBits b)
  have e2 := pow_cast (Builtin.Int.intBits b - 1)
  exact ⟨h2, by omega, by omega⟩
/-- a turn of the school's division -/
theorem school_turn {n : Nat} {a b r : Int} {qs : List Int} {i K : Nat} (hb : 0 < b) (hi : i < K) (hQ : qval n qs * b + r = a / 2 ^ (n * (K - i))) (h0 : 0 ≤ r) (h1 : r < b) :
    0 ≤ r * 2 ^ n + a / 2 ^ (n * (K - 1 - i)) % 2 ^ n ∧ r * 2 ^ n + a / 2 ^ (n * (K - 1 - i)) % 2 ^ n < 2 ^ n * b ∧
    qval n (qs ++ [(r * 2 ^ n + a / 2 ^ (n * (K - 1 - i)) % 2 ^ n).fdiv b]) * b + (r * 2 ^ n + a / 2 ^ (n * (K - 1 - i)) % 2 ^ n).fmod b = a / 2 ^ (n * (K - (i + 1))) ∧
    0 ≤ (r * 2 ^ n + a / 2 ^ (n * (K - 1 - i)) % 2 ^ n).fmod b ∧ (r * 2 ^ n + a / 2 ^ (n * (K - 1 - i)) % 2 ^ n).fmod b < b ∧
    0 ≤ (r * 2 ^ n + a / 2 ^ (n * (K - 1 - i)) % 2 ^ n).fdiv b ∧ (r * 2 ^ n + a / 2 ^ (n * (K - 1 - i)) % 2 ^ n).fdiv b < 2 ^ n := by
  have hp := pow_pos' n
  have e0 : K - i = (K - 1 - i) + 1 := by omega
  have e1 : K - (i + 1) = K - 1 - i := by omega
  have hd : a / 2 ^ (n * (K - i)) = a / 2 ^ (n * (K - 1 - i)) / 2 ^ n := by
    rw [Int.ediv_ediv_of_nonneg (Int.le_of_lt (pow_pos' _)), ← pow_add', e0]; rfl
  rw [hd] at hQ
  rw [e1, qval_snoc]
  generalize a / 2 ^ (n * (K - 1 - i)) = x at *
  have d1 := Int.emod_nonneg x (show (2 : Int) ^ n ≠ 0 by omega)
  have d2 := Int.emod_lt_of_pos x hp
  have d3 := Int.ediv_mul_add_emod x (2 ^ n)
  generalize x % 2 ^ n = d at *
  generalize (2 : Int) ^ n = P at *
  have hr0 : 0 ≤ r * P := Int.mul_nonneg h0 (by omega)
  have hlt : r * P + d < P * b := by
    have : (r + 1) * P ≤ b * P := Int.mul_le_mul_of_nonneg_right (by omega) (by omega)
    rw [Int.add_mul, Int.one_mul, Int.mul_comm b] at this
    omega
  obtain ⟨f1, f2, f3⟩ := fdm_spec (A := r * P + d) hb
  have hq0 : 0 ≤ (r * P + d).fdiv b := by
    rw [Int.fdiv_eq_ediv_of_nonneg _ (by omega)]; exact Int.ediv_nonneg (by omega) (by omega)
  have hq1 : (r * P + d).fdiv b < P := by
    rw [Int.fdiv_eq_ediv_of_nonneg _ (by omega)]; exact (Int.ediv_lt_iff_lt_mul hb).mpr hlt
  generalize (r * P + d).fdiv b = q at *
  generalize (r * P + d).fmod b = r' at *
  refine ⟨by omega, hlt, ?_, f2, f3, hq0, hq1⟩
  rw [← d3, ← hQ]
  grind
theorem ints_rev_get {vs : List Value} {ns : List Int} (h : IntsAre vs ns) {i : Nat} {v : Value} (hi : i < vs.length) (hv : vs.reverse[i]? = some v) : ∃ t, v = .int (ns.getD (ns.length - 1 - i) 0) t := by
  have hl := h.length
  rw [List.getElem?_reverse hi] at hv
  obtain ⟨t, ht⟩ := h.get (vs.length - 1 - i) (ns.getD (ns.length - 1 - i) 0) (by
    rw [hl, List.getD_eq_getElem?_getD]
    have : ns.length - 1 - i < ns.length := by omega
    rw [List.getElem?_eq_getElem this]; rfl)
  rw [hv] at ht
  exact ⟨t, Option.some.inj ht⟩
theorem ints_app {vs ws : List Value} {ns ms : List Int} (h : IntsAre vs ns) (h2 : IntsAre ws ms) : IntsAre (vs ++ ws) (ns ++ ms) := by
  induction h with
  | nil => exact h2
  | cons n t _ ih => exact .cons n t ih
theorem ints_rev {vs : List Value} {ns : List Int} (h : IntsAre vs ns) : IntsAre vs.reverse ns.reverse := by
  induction h with
  | nil => exact .nil
  | cons n t _ ih => rw [List.reverse_cons, List.reverse_cons]; exact ints_app ih (.cons n t .nil)
theorem map_eq {m : Str → Option Value} {ps : List (Str × Value)} (h : ∀ p ∈ ps, m p.1 = some p.2) : m = kstB m ps := by
  funext z
  exact (kstB_eq h fun _ => rfl).symm
theorem allLt_to {d : Addr} {l : List (Addr × Obj)} (h : AllLt d l) : ∀ p ∈ l, p.1 < d := by
  induction l with
  | nil => exact fun _ h => nomatch h
  | cons a l ih =>
    intro p hp
    obtain ⟨h1, h2⟩ := h
    rcases List.mem_cons.mp hp with rfl | hp
    · exact h1
    · exact ih h2 p hp
end Mine

namespace Mine
/-- the whole points under a line, column by column -/
noncomputable def fsum : Nat → Int → Int → Int → Int
  | 0, _, _, _ => 0
  | n + 1, s, t, b => fsum n s t b + (s * n + t).fdiv b
noncomputable def hsum (N b s : Int) : Nat → Int
  | 0 => 0
  | c + 1 => hsum N b s c + (N - (c + 1 : Nat) * b) / s

theorem hsum_up {N b s : Int} (hs : 0 < s) : ∀ c : Nat, hsum (N + s) b s c = hsum N b s c + c
  | 0 => rfl
  | c + 1 => by
    have e : N + s - ((c + 1 : Nat) : Int) * b = (N - ((c + 1 : Nat) : Int) * b) + 1 * s := by omega
    simp only [hsum, hsum_up hs c]
    rw [e, Int.add_mul_ediv_right _ _ (by omega)]
    omega
theorem hsum_shift {N b s : Int} : ∀ c : Nat, hsum (N + b) b s (c + 1) = N / s + hsum N b s c
  | 0 => by
    simp only [hsum]
    have : N + b - ((0 + 1 : Nat) : Int) * b = N := by simp
    rw [this]; omega
  | c + 1 => by
    rw [hsum, hsum_shift c, hsum]
    have : N + b - ((c + 1 + 1 : Nat) : Int) * b = N - ((c + 1 : Nat) : Int) * b := by
      have : ((c + 1 + 1 : Nat) : Int) * b = ((c + 1 : Nat) : Int) * b + b := by rw [Int.natCast_add (c + 1) 1, Int.add_mul]; omega
      omega
    rw [this]; omega
theorem hsum_rev {b s t : Int} (hs : 0 < s) : ∀ c : Nat, hsum (c * b + t) b s c = fsum c b t s
  | 0 => rfl
  | c + 1 => by
    have e : ((c + 1 : Nat) : Int) * b + t = (c * b + t) + b := by rw [Int.natCast_add, Int.add_mul]; omega
    rw [e, hsum_shift, hsum_rev hs c, fsum, Int.fdiv_eq_ediv_of_nonneg _ (by omega), Int.mul_comm b]
    omega
theorem hsum_step {N b s : Int} (hs : 0 < s) (hsb : s < b) (hN : 0 ≤ N) : hsum (N + s) b s ((N + s) / b).toNat = hsum N b s (N / b).toNat + N / b := by
  have hb : 0 < b := by omega
  have h1 := Int.ediv_mul_add_emod N b
  have h2 := Int.emod_nonneg N (show b ≠ 0 by omega)
  have h3 := Int.emod_lt_of_pos N hb
  have h4 : 0 ≤ N / b := Int.ediv_nonneg hN (by omega)
  have hc : (((N / b).toNat : Nat) : Int) = N / b := Int.toNat_of_nonneg h4
  rcases (show (N % b + s < b) ∨ b ≤ N % b + s by omega) with h | h
  · have e : (N + s) / b = N / b := ((Int.ediv_emod_unique (q := N / b) (r := N % b + s) hb).mpr ⟨by rw [Int.mul_comm b]; omega, by omega, h⟩).1
    rw [e, hsum_up hs, hc]
  · have e : (N + s) / b = N / b + 1 := ((Int.ediv_emod_unique (q := N / b + 1) (r := N % b + s - b) hb).mpr ⟨by rw [Int.mul_comm b, Int.add_mul]; omega, by omega, by omega⟩).1
    have e2 : (N / b + 1).toNat = (N / b).toNat + 1 := by omega
    rw [e, e2, hsum, hsum_up hs, hc]
    have e4 : (((N / b).toNat + 1 : Nat) : Int) = N / b + 1 := by omega
    have e3 : N + s - (((N / b).toNat + 1 : Nat) : Int) * b = N % b + s - b := by
      rw [e4, Int.add_mul]; omega
    have e5 : (N % b + s - b) / s = 0 := Int.ediv_eq_zero_of_lt (by omega) (by omega)
    rw [e3, e5]
    omega
theorem fsum_hsum {s t b : Int} (hs : 0 < s) (hsb : s < b) (ht0 : 0 ≤ t) (ht1 : t < b) : ∀ n : Nat, fsum n s t b = hsum (s * n + t) b s ((s * n + t) / b).toNat
  | 0 => by
    have : (s * ((0 : Nat) : Int) + t) / b = 0 := by simp; exact Int.ediv_eq_zero_of_lt ht0 ht1
    rw [this]; rfl
  | n + 1 => by
    have h0 : 0 ≤ s * (n : Int) := Int.mul_nonneg (by omega) (by omega)
    have e : s * ((n + 1 : Nat) : Int) + t = s * n + t + s := by rw [Int.natCast_add, Int.mul_add]; omega
    rw [fsum, fsum_hsum hs hsb ht0 ht1 n, e, hsum_step hs hsb (by omega), Int.fdiv_eq_ediv_of_nonneg _ (by omega)]

/-- rows in place of columns -/
theorem fsum_turn {s t b : Int} {n : Nat} (hs0 : 0 ≤ s) (hsb : s < b) (ht0 : 0 ≤ t) (ht1 : t < b) :
    fsum n s t b = fsum ((s * n + t).fdiv b).toNat b ((s * n + t).fmod b) s ∧ 0 ≤ (s * n + t).fdiv b ∧ (1 ≤ n → (s * n + t).fdiv b ≤ n) ∧ (s = 0 → (s * n + t).fdiv b = 0) := by
  have hb : 0 < b := by omega
  rw [Int.fdiv_eq_ediv_of_nonneg _ (by omega), Int.fmod_eq_emod_of_nonneg _ (by omega)]
  have h0 : 0 ≤ s * (n : Int) := Int.mul_nonneg (by omega) (by omega)
  have h4 : 0 ≤ (s * n + t) / b := Int.ediv_nonneg (by omega) (by omega)
  have hz : s = 0 → (s * n + t) / b = 0 := fun e => by subst e; rw [Int.zero_mul, Int.zero_add]; exact Int.ediv_eq_zero_of_lt ht0 ht1
  refine ⟨?_, h4, fun hn => ?_, hz⟩
  · rcases (show s = 0 ∨ 0 < s by omega) with e | hs
    · rw [hz e]
      subst e
      show _ = 0
      clear h0 h4 hz
      induction n with
      | zero => rfl
      | succ n ih => rw [fsum, ih, Int.zero_mul, Int.zero_add, Int.zero_add, Int.fdiv_eq_ediv_of_nonneg _ (by omega), Int.ediv_eq_zero_of_lt ht0 ht1]
    · rw [fsum_hsum hs hsb ht0 ht1, ← hsum_rev hs, Int.toNat_of_nonneg h4]
      congr 1
      exact (Int.ediv_mul_add_emod _ _).symm
  · have : (s * n + t) / b < n + 1 := (Int.ediv_lt_iff_lt_mul hb).mpr (by
      have k1 : s * (n : Int) ≤ (b - 1) * n := Int.mul_le_mul_of_nonneg_right (by omega) (by omega)
      rw [Int.sub_mul, Int.one_mul] at k1
      have k2 : ((n : Int) + 1) * b = b * n + b := by rw [Int.add_mul, Int.one_mul, Int.mul_comm]
      omega)
    omega
/-- what slope and start lose -/
theorem fsum_lose {s t b : Int} (hb : b ≠ 0) : ∀ n : Nat, fsum n s t b = s.fdiv b * ((n : Int) * (n - 1)).fdiv 2 + t.fdiv b * n + fsum n (s.fmod b) (t.fmod b) b
  | 0 => by simp [fsum]
  | n + 1 => by
    rw [fsum, fsum, fsum_lose hb n]
    have e1 := Int.mul_fdiv_add_fmod s b
    have e2 := Int.mul_fdiv_add_fmod t b
    have e3 : (s * n + t).fdiv b = s.fdiv b * n + t.fdiv b + (s.fmod b * n + t.fmod b).fdiv b := by
      have : s * n + t = (s.fmod b * n + t.fmod b) + (s.fdiv b * n + t.fdiv b) * b := by grind
      rw [this, Int.add_mul_fdiv_right _ _ hb]; omega
    have e4 : (((n + 1 : Nat) : Int) * (((n + 1 : Nat) : Int) - 1)).fdiv 2 = ((n : Int) * (n - 1)).fdiv 2 + n := by
      have : ((n + 1 : Nat) : Int) * (((n + 1 : Nat) : Int) - 1) = (n : Int) * (n - 1) + n * 2 := by rw [Int.natCast_add]; grind
      rw [this, Int.add_mul_fdiv_right _ _ (by decide)]
    rw [e3, e4]
    have e5 : ((n + 1 : Nat) : Int) = n + 1 := by omega
    rw [e5]
    generalize (s.fmod b * n + t.fmod b).fdiv b = x
    generalize ((n : Int) * (n - 1)).fdiv 2 = y
    generalize fsum n (s.fmod b) (t.fmod b) b = z
    grind
theorem fsum_neg {s t b : Int} : ∀ n : Nat, fsum n (-s) (-t) (-b) = fsum n s t b
  | 0 => rfl
  | n + 1 => by
    rw [fsum, fsum, fsum_neg n]
    have : -s * (n : Int) + -t = -(s * n + t) := by grind
    rw [this, Int.neg_fdiv_neg]
end Mine

namespace Mine
open Builtin.Int (intBits)
/-- the state ahead of a turn of Euclid's -/
structure Eu (tot c s t b TOT : Int) : Prop where
  c0 : 0 ≤ c
  c1 : c ≤ 61
  nz : 0 < c → b ≠ 0
  bs : intBits s ≤ 13000
  bt : intBits t ≤ 13000
  bb : intBits b ≤ 7000
  sum : tot + fsum c.toNat s t b = TOT
theorem Eu.lose {tot c s t b TOT : Int} (h : Eu tot c s t b TOT) (hc : 0 < c) : tot + s.fdiv b * (c * (c - 1)).fdiv 2 + t.fdiv b * c + fsum c.toNat (s.fmod b) (t.fmod b) b = TOT := by
  have e := fsum_lose (s := s) (t := t) (b := b) (h.nz hc) c.toNat
  rw [Int.toNat_of_nonneg h.c0] at e
  have := h.sum
  omega
theorem Eu.one {tot s t b TOT : Int} (h : Eu tot 1 s t b TOT) : tot + s.fdiv b * ((1 : Int) * (1 - 1)).fdiv 2 + t.fdiv b * 1 = TOT := by
  have e := h.lose (by decide)
  have hb := h.nz (by decide)
  have e1 : fsum (1 : Int).toNat (s.fmod b) (t.fmod b) b = 0 := by
    show fsum 1 _ _ _ = 0
    simp only [fsum]
    have e2 := Int.mul_fdiv_add_fmod t b
    have e3 : t.fdiv b = t.fdiv b + (t.fmod b).fdiv b := by
      have : t.fdiv b = (t.fmod b + t.fdiv b * b).fdiv b := by congr 1; rw [Int.mul_comm]; omega
      rw [Int.add_mul_fdiv_right _ _ hb] at this
      omega
    have : s.fmod b * ((0 : Nat) : Int) + t.fmod b = t.fmod b := by simp
    rw [this]; omega
  omega
theorem Eu.next {tot c b s' t' TOT : Int} (hc0 : 1 ≤ c) (hc1 : c ≤ 61) (bb : intBits b ≤ 7000) (hs0 : 0 ≤ s') (hs1 : s' < b) (ht0 : 0 ≤ t') (ht1 : t' < b) (hsum : tot + fsum c.toNat s' t' b = TOT) :
    Eu tot ((s' * c + t').fdiv b) b ((s' * c + t').fmod b) s' TOT ∧ s'.natAbs < b.natAbs := by
  obtain ⟨e1, e2, e3, e4⟩ := fsum_turn (n := c.toNat) hs0 hs1 ht0 ht1
  rw [Int.toNat_of_nonneg (by omega)] at e1 e2 e3 e4
  refine ⟨⟨e2, Int.le_trans (e3 (by omega)) hc1, fun h he => ?_, by omega, ?_, ?_, by rw [← e1]; exact hsum⟩, by omega⟩
  · rw [e4 he] at h; omega
  · exact Nat.le_trans (bits_of_natAbs_le (b := b) (by
      have := Int.fmod_nonneg_of_pos (s' * c + t') (show 0 < b by omega)
      have := Int.fmod_lt_of_pos (s' * c + t') (show 0 < b by omega)
      omega) bb) (by decide)
  · exact bits_of_natAbs_le (b := b) (by omega) bb
/-- the two signs of the base -/
theorem fmod_pos {s b : Int} (hb : 0 < b) : 0 ≤ s.fmod b ∧ s.fmod b < b := ⟨Int.fmod_nonneg_of_pos s hb, Int.fmod_lt_of_pos s hb⟩
theorem fmod_neg {s b : Int} (hb : b < 0) : 0 ≤ -s.fmod b ∧ -s.fmod b < -b := by
  have e : -s.fmod b = (-s).fmod (-b) := by rw [Int.neg_fmod_neg]
  rw [e]; exact fmod_pos (by omega)
end Mine

namespace Mine

/-- what a callee is told of the heap: a part g that stands, a ledger that it may change -/
structure Gd (A : Around) (base : Heap) (outer : List Env) (g h : Heap) (small : List (Addr × Obj)) : Prop where
  below : Below A base outer g
  stays : g.StaysIn h
  size : g.objs.size ≤ h.objs.size
  led : ∀ q ∈ small, h.get? q.1 = some q.2 ∧ g.get? q.1 = none

abbrev aroundOf (dp un : Nat) (gd : Option (List Code)) (outer : List Env) : Around := { handled := none, depth := dp, frames := some outer, guards := gd, units := un }

def Con (prog : Program) (w : World) (K : Frag) (p : Program) (loose : List Str) (mean : ExcName → Option Value) (mg mb : Str → Option Value) (d u : Nat)
    (f : Addr) (args : List Value) (small : List (Addr × Obj)) (Ret : Value → List (Addr × Obj) → Prop) : Prop :=
  ∀ (dp un : Nat) (gd : Option (List Code)) (base g : Heap) (outer : List Env) (s : Shared) (R : Result → Shared → Prop),
    dp + d < recursionLimit → un + u < cLine →
    Gd (aroundOf dp un gd outer) base outer g s.heap small → K.In g → Top p loose mean mg mb g →
    (∀ r small' h' tk', g.StaysIn h' → (∀ q ∈ small', h'.get? q.1 = some q.2 ∧ g.get? q.1 = none) → Ret r small' → R (.ok (.ret r)) { s with heap := h', toks := tk' }) →
    codeAny (model prog w) (aroundOf dp un gd outer) (.call (.ref f) ⟨args, []⟩) R s

section
variable {prog : Program} {w : World} {K : Frag} {p : Program} {loose : List Str} {mean : ExcName → Option Value} {mg mb : Str → Option Value} {d u : Nat}
  {f : Addr} {args : List Value} {small : List (Addr × Obj)} {Ret : Value → List (Addr × Obj) → Prop}

theorem Con.mono {Ret' : Value → List (Addr × Obj) → Prop} {d' u' : Nat} (C : Con prog w K p loose mean mg mb d u f args small Ret) (hd : d ≤ d') (hu : u ≤ u') (h : ∀ r sm, Ret r sm → Ret' r sm) :
    Con prog w K p loose mean mg mb d' u' f args small Ret' :=
  fun dp un gd base g outer s R h2 h3 G X T hr => C dp un gd base g outer s R (by omega) (by omega) G X T fun r sm h' tk' a b c => hr r sm h' tk' a b (h r sm c)

theorem con_use {A A₀ : Around} {base h₀ : Heap} {outer : List Env} {env : Env} {L : Addr} {m : Str → Option Value} {news rest : List (Addr × Obj)} {s : Shared} {Q E : Value → Shared → Prop}
    (C : Con prog w K p loose mean mg mb d u f args small Ret)
    (B : Below A₀ base outer h₀) (F : Fr h₀ L s.heap m) (X : K.In h₀) (N : News h₀ L s.heap news) (T : Top p loose mean mg mb h₀)
    (hA : A.frames = some (env :: outer)) (hf : env.frame = some L) (hke : env.scope.kind = .function)
    (hh : A.handled = none) (hd : A.depth + d < recursionLimit) (hu : A.units + u < cLine)
    (hs : ∀ q ∈ small, q ∈ news) (hr : ∀ q ∈ rest, q ∈ news) (hap : ∀ q ∈ rest, ∀ z ∈ small, q.1 ≠ z.1)
    (h : ∀ r small' h' tk', Fr h₀ L h' m → News h₀ L h' (small' ++ rest) → (∀ q ∈ small', ∀ z ∈ rest, q.1 ≠ z.1) → Ret r small' → Q r { s with heap := h', toks := tk' }) :
    wpAny (model prog w) A (call (.ref f) args) Q E s := by
  obtain ⟨ah, ad, af, ag, au⟩ := A
  dsimp only at hA hh hd hu
  subst hA hh
  have Ns : News h₀ L s.heap small := fun q hq => N q (hs q hq)
  obtain ⟨FG, BG, st, -⟩ := groundX (A := aroundOf ad au ag (env :: outer)) (R := fun _ _ => True) B F Ns rfl hf hke
  refine wpAny_call (C ad au ag base _ (env :: outer) s _ hd hu ⟨BG, fun b o e => of_hideAll _ e, Nat.le_of_eq (hideAll_size _ _), fun q hq => ⟨(Ns q hq).1, hideAll_none _ (List.mem_map_of_mem hq)⟩⟩
    (X.keeps st) (T.keeps st) ?_)
  intro r small' h' tk' sty led ret
  have gr : ∀ q ∈ rest, (hideAll s.heap (small.map (·.1))).get? q.1 = some q.2 := fun q hq => hideAll_get _ (N q (hr q hq)).1 fun hm => by
    obtain ⟨z, hz, e⟩ := List.mem_map.mp hm
    exact hap q hq z hz e.symm
  refine h r small' h' tk' ⟨?_, fun b o e => sty _ _ (st _ _ e), F.above⟩ (fun q hq => ?_) (fun q hq z hz e => ?_) ret
  · obtain ⟨oL, es, ep, hL, r⟩ := FG.ns
    exact ⟨oL, es, ep, sty _ _ hL, r⟩
  · rcases List.mem_append.mp hq with hq | hq
    · refine ⟨(led q hq).1, fun e => ?_, ?_⟩
      · obtain ⟨oL, es, ep, hL, r⟩ := FG.ns
        have := (led q hq).2
        rw [e, hL] at this; cases this
      · cases z : h₀.get? q.1 with
        | none => rfl
        | some o => have := (led q hq).2; rw [st _ _ z] at this; cases this
    · exact ⟨sty _ _ (gr q hq), (N q (hr q hq)).2⟩
  · have := (led q hq).2
    rw [e, gr z hz] at this; cases this
end

/-- the end of a walked body -/
def LeaveM (g : Heap) (R : Result → Shared → Prop) (v : Value) (s' : Shared) : Prop :=
  ∃ L' m' small', Fr g L' s'.heap m' ∧ News g L' s'.heap small' ∧ R (.ok (.ret v)) s'

section
variable {prog : Program} {w : World} {K : Frag} {p : Program} {loose : List Str} {mean : ExcName → Option Value} {mg mb : Str → Option Value} 

theorem enter_def {A : Around} {base g : Heap} {outer : List Env} {s : Shared} {R : Result → Shared → Prop} {small : List (Addr × Obj)} {name qual : Str} {params : Arguments} {body : List Stmt} {scope : Scope} {dV kV doc pm cdv ct oc : Value} {an od : Option Addr} {osl : Array (Option Value)} {f : Addr} {args : Args} {binds : List (Str × Value)}
    (G : Gd A base outer g s.heap small) (X : K.In g) (T : Top p loose mean mg mb g)
    (ho : K.lookup f = some ⟨oc, od, .func (fnOf name qual params body scope dV kV doc pm an cdv ct), osl⟩) (hcd : codeIn K cdv qual = true) (hroom : A.depth < recursionLimit)
    (hbind : BindsTo s (fnOf name qual params body scope dV kV doc pm an cdv ct) args binds) (hloc : ∀ y ∈ binds, scope.names.lookup y.1 = some .local)
    (h : ∀ L' h₁, Fr g L' h₁ (fun y => binds.reverse.lookup y) → News g L' h₁ small → (∀ q ∈ small, q.1 < L') →
      wpAny (model prog w) (A.deeper (envOf qual scope L' f cdv)) (execs body (envOf qual scope L' f cdv))
        (fun fl s' => R (.ok (.ret (match fl with | .ret v => v | _ => .none))) s')
        (fun e s' => wpAny (model prog w) (A.deeper (envOf qual scope L' f cdv)) (leaving (envOf qual scope L' f cdv) e) (fun _ s'' => R (.error e) s'') (fun e' s'' => R (.error e') s'') s')
        { s with heap := h₁, toks := s.toks + binds.length })
    (hco : scope.isCoroutine = false) (hgen : scope.isGenerator = false) (hk : scope.kind = .function)
    (hcell : ∀ x ∈ scope.names, x.2 ≠ .cell) : codeAny (model prog w) A (.call (.ref f) args) R s := by
  refine codeAny_call_def (fd := fnOf name qual params body scope dV kV doc pm an cdv ct) (body := body) (binds := binds) hroom (G.stays _ _ (X _ _ ho)) rfl (T.nolimit.keeps G.stays) ((codeRec_of X hcd).keeps G.stays) rfl hbind hcell hloc (fun h₁ hns hk₁ => ?_) hco hgen hk
  exact h s.heap.objs.size h₁ ⟨hns, fun b o e => hk₁ b o (G.stays b o e), G.size⟩
    (fun q hq => ⟨hk₁ _ _ (G.led q hq).1, Nat.ne_of_lt (Heap.lt_size (G.led q hq).1), (G.led q hq).2⟩) (fun q hq => Heap.lt_size (G.led q hq).1)
end
/-- as Con, over a heap of which something is known -/
def ConP (prog : Program) (w : World) (K : Frag) (p : Program) (loose : List Str) (mean : ExcName → Option Value) (mg mb : Str → Option Value) (d u : Nat) (Pre : Heap → Prop)
    (f : Addr) (args : List Value) (small : List (Addr × Obj)) (Ret : Value → List (Addr × Obj) → Prop) : Prop :=
  ∀ (dp un : Nat) (gd : Option (List Code)) (base g : Heap) (outer : List Env) (s : Shared) (R : Result → Shared → Prop),
    dp + d < recursionLimit → un + u < cLine →
    Gd (aroundOf dp un gd outer) base outer g s.heap small → K.In g → Top p loose mean mg mb g → Pre g →
    (∀ r small' h' tk', g.StaysIn h' → (∀ q ∈ small', h'.get? q.1 = some q.2 ∧ g.get? q.1 = none) → Ret r small' → R (.ok (.ret r)) { s with heap := h', toks := tk' }) →
    codeAny (model prog w) (aroundOf dp un gd outer) (.call (.ref f) ⟨args, []⟩) R s

section
variable {prog : Program} {w : World} {K : Frag} {p : Program} {loose : List Str} {mean : ExcName → Option Value} {mg mb : Str → Option Value} {d u : Nat} {Pre : Heap → Prop}
  {f : Addr} {args : List Value} {small : List (Addr × Obj)} {Ret : Value → List (Addr × Obj) → Prop}
theorem con_useP {A A₀ : Around} {base h₀ : Heap} {outer : List Env} {env : Env} {L : Addr} {m : Str → Option Value} {news rest : List (Addr × Obj)} {s : Shared} {Q E : Value → Shared → Prop}
    (C : ConP prog w K p loose mean mg mb d u Pre f args small Ret)
    (B : Below A₀ base outer h₀) (F : Fr h₀ L s.heap m) (X : K.In h₀) (N : News h₀ L s.heap news) (T : Top p loose mean mg mb h₀)
    (hA : A.frames = some (env :: outer)) (hf : env.frame = some L) (hke : env.scope.kind = .function)
    (hh : A.handled = none) (hd : A.depth + d < recursionLimit) (hu : A.units + u < cLine)
    (hs : ∀ q ∈ small, q ∈ news) (hr : ∀ q ∈ rest, q ∈ news) (hap : ∀ q ∈ rest, ∀ z ∈ small, q.1 ≠ z.1)
    (hP : ∀ g, (∀ b o, s.heap.get? b = some o → (∀ z ∈ small, b ≠ z.1) → g.get? b = some o) → Pre g)
    (h : ∀ r small' h' tk', Fr h₀ L h' m → News h₀ L h' (small' ++ rest) → (∀ q ∈ small', ∀ z ∈ rest, q.1 ≠ z.1) → Ret r small' → Q r { s with heap := h', toks := tk' }) :
    wpAny (model prog w) A (call (.ref f) args) Q E s := by
  obtain ⟨ah, ad, af, ag, au⟩ := A
  dsimp only at hA hh hd hu
  subst hA hh
  have Ns : News h₀ L s.heap small := fun q hq => N q (hs q hq)
  obtain ⟨FG, BG, st, -⟩ := groundX (A := aroundOf ad au ag (env :: outer)) (R := fun _ _ => True) B F Ns rfl hf hke
  refine wpAny_call (C ad au ag base _ (env :: outer) s _ hd hu ⟨BG, fun b o e => of_hideAll _ e, Nat.le_of_eq (hideAll_size _ _), fun q hq => ⟨(Ns q hq).1, hideAll_none _ (List.mem_map_of_mem hq)⟩⟩
    (X.keeps st) (T.keeps st) (hP _ fun b o e ne => hideAll_get _ e fun hm => ?_) ?_)
  · obtain ⟨z, hz, e2⟩ := List.mem_map.mp hm
    exact ne z hz e2.symm
  intro r small' h' tk' sty led ret
  have gr : ∀ q ∈ rest, (hideAll s.heap (small.map (·.1))).get? q.1 = some q.2 := fun q hq => hideAll_get _ (N q (hr q hq)).1 fun hm => by
    obtain ⟨z, hz, e⟩ := List.mem_map.mp hm
    exact hap q hq z hz e.symm
  refine h r small' h' tk' ⟨?_, fun b o e => sty _ _ (st _ _ e), F.above⟩ (fun q hq => ?_) (fun q hq z hz e => ?_) ret
  · obtain ⟨oL, es, ep, hL, r⟩ := FG.ns
    exact ⟨oL, es, ep, sty _ _ hL, r⟩
  · rcases List.mem_append.mp hq with hq | hq
    · refine ⟨(led q hq).1, fun e => ?_, ?_⟩
      · obtain ⟨oL, es, ep, hL, r⟩ := FG.ns
        have := (led q hq).2
        rw [e, hL] at this; cases this
      · cases z : h₀.get? q.1 with
        | none => rfl
        | some o => have := (led q hq).2; rw [st _ _ z] at this; cases this
    · exact ⟨sty _ _ (gr q hq), (N q (hr q hq)).2⟩
  · have := (led q hq).2
    rw [e, gr z hz] at this; cases this

theorem enter_nest {A : Around} {base g : Heap} {outer : List Env} {s : Shared} {R : Result → Shared → Prop} {name qual : Str} {params : Arguments} {body : List Stmt} {scope : Scope} {cl : List (Str × Addr)} {doc pm ctv : Value} {c' : Addr} {args : Args} {binds : List (Str × Value)}
    (G : Gd A base outer g s.heap small) (T : Top p loose mean mg mb g)
    (ho : g.get? f = some (fnMade name qual params body scope cl doc pm c' ctv)) (hcd : g.CodeRec (.ref c') qual) (hroom : A.depth < recursionLimit)
    (hbind : BindsTo s (fnX name qual params body scope cl .none .none doc pm none (.ref c') ctv) args binds) (hloc : ∀ y ∈ binds, scope.names.lookup y.1 = some .local)
    (h : ∀ L' h₁, Fr g L' h₁ (fun y => binds.reverse.lookup y) → News g L' h₁ small → (∀ q ∈ small, q.1 < L') →
      wpAny (model prog w) (A.deeper (envX qual scope L' f (.ref c') cl)) (execs body (envX qual scope L' f (.ref c') cl))
        (fun fl s' => R (.ok (.ret (match fl with | .ret v => v | _ => .none))) s')
        (fun e s' => wpAny (model prog w) (A.deeper (envX qual scope L' f (.ref c') cl)) (leaving (envX qual scope L' f (.ref c') cl) e) (fun _ s'' => R (.error e) s'') (fun e' s'' => R (.error e') s'') s')
        { s with heap := h₁, toks := s.toks + binds.length })
    (hco : scope.isCoroutine = false) (hgen : scope.isGenerator = false) (hk : scope.kind = .function)
    (hcell : ∀ x ∈ scope.names, x.2 ≠ .cell) : codeAny (model prog w) A (.call (.ref f) args) R s := by
  refine codeAny_call_def (fd := fnX name qual params body scope cl .none .none doc pm none (.ref c') ctv) (body := body) (binds := binds) hroom (G.stays _ _ ho) rfl (T.nolimit.keeps G.stays) (hcd.keeps G.stays) rfl hbind hcell hloc (fun h₁ hns hk₁ => ?_) hco hgen hk
  exact h s.heap.objs.size h₁ ⟨hns, fun b o e => hk₁ b o (G.stays b o e), G.size⟩
    (fun q hq => ⟨hk₁ _ _ (G.led q hq).1, Nat.ne_of_lt (Heap.lt_size (G.led q hq).1), (G.led q hq).2⟩) (fun q hq => Heap.lt_size (G.led q hq).1)
end

theorem enter_cells {prog : Program} {w : World} {K : Frag} {p : Program} {loose : List Str} {mean : ExcName → Option Value} {mg mb : Str → Option Value} {small : List (Addr × Obj)} {A : Around} {base g : Heap} {outer : List Env} {s : Shared} {R : Result → Shared → Prop}
    {name qual : Str} {params : Arguments} {body : List Stmt} {scope : Scope} {dV kV doc pm cdv ct oc : Value} {an od : Option Addr} {osl : Array (Option Value)} {f : Addr} {args : Args} {binds : List (Str × Value)}
    (G : Gd A base outer g s.heap small) (X : K.In g) (T : Top p loose mean mg mb g)
    (ho : K.lookup f = some ⟨oc, od, .func (fnOf name qual params body scope dV kV doc pm an cdv ct), osl⟩) (hcd : codeIn K cdv qual = true) (hroom : A.depth < recursionLimit)
    (hbind : BindsTo s (fnOf name qual params body scope dV kV doc pm an cdv ct) args binds)
    (hkind : (binds.all fun y => scope.names.lookup y.1 == some .local || scope.names.lookup y.1 == some .cell) = true)
    (hnd : ((cellsFrom 0 scope.names []).map (·.1)).Nodup)
    (h : ∀ L' h₁ tk cells, Fr g L' h₁ (bindL (envOfC qual scope L' f cdv).kindOf binds fun _ => none) → News g L' h₁ (cells ++ small) →
      CellsAre (bindC (envOfC qual scope L' f cdv).kindOf binds fun _ => none) (cellsFrom (L' + 1) scope.names []) cells → (∀ q ∈ small, q.1 < L') →
      wpAny (model prog w) (A.deeper (envOfC qual scope L' f cdv)) (execs body (envOfC qual scope L' f cdv))
        (fun fl s' => R (.ok (.ret (match fl with | .ret v => v | _ => .none))) s')
        (fun e s' => wpAny (model prog w) (A.deeper (envOfC qual scope L' f cdv)) (leaving (envOfC qual scope L' f cdv) e) (fun _ s'' => R (.error e) s'') (fun e' s'' => R (.error e') s'') s')
        { s with heap := h₁, toks := tk })
    (hco : scope.isCoroutine = false) (hgen : scope.isGenerator = false) (hk : scope.kind = .function) : codeAny (model prog w) A (.call (.ref f) args) R s := by
  refine codeAny_call_function hroom (G.stays _ _ (X _ _ ho)) rfl hco hgen rfl ((codeRec_of X hcd).keeps G.stays) (hbind _ _ _ _ ?_)
  refine wpAny_newFunctionEnv_cells hk (kindsX hkind _) fun env' he s' x => ?_
  subst he
  refine ⟨(T.nolimit.keeps G.stays).keeps x.toInCall.keep, codeAny_func ?_⟩
  obtain ⟨h₁, tk, rfl, _⟩ := x.done
  have hk₁ := x.toInCall.keep
  obtain ⟨cells, NC, Y⟩ := Cl.news (h₀ := s.heap) (Nat.le_refl _) fun n c hm => ⟨x.cell n c (lookup_of_mem_nodup (cellsFrom_names scope.names 0 (s.heap.objs.size + 1) [] [] rfl ▸ hnd) hm), x.above n c hm⟩
  refine h s.heap.objs.size h₁ tk cells ⟨x.toInCall.ns, fun b o e => hk₁ b o (G.stays b o e), G.size⟩ (fun p hp => ?_) Y (fun q hq => Heap.lt_size (G.led q hq).1)
  rcases List.mem_append.mp hp with hp | hp
  · refine ⟨(NC p hp).1, (NC p hp).2.1, ?_⟩
    cases q : g.get? p.1 with
    | none => rfl
    | some o => have := G.stays _ _ q; rw [(NC p hp).2.2] at this; cases this
  · exact ⟨hk₁ _ _ (G.led p hp).1, Nat.ne_of_lt (Heap.lt_size (G.led p hp).1), (G.led p hp).2⟩

section
variable {M : Model} {A : Around} {E : Value → Shared → Prop} {s : Shared} {h₀ : Heap} {L a : Addr} {m : Str → Option Value} {cn : Str} {cs : Scope} {ccd : Value} {cl : List (Str × Addr)} {x : Str} {pos : Pos} {v : Value} {Q : Value → Shared → Prop} {c : Addr}
/-- a free name whose cell stands below -/
theorem name_free (F : Fr h₀ L s.heap m) (hc : cl.lookup x = some c) (hv : h₀.IsCell c (some v)) (h : Q v s)
    (hk : cs.kind = .function := by rfl) (hx : (envX cn cs L a ccd cl).kindOf x = some .free := by rfl) (hb : (x == ("__debug__" : Str)) = false := by decide) (hn : (x == ("__classdict__" : Str)) = false := by decide) :
    wpAny M A (eval (.Name x pos) (envX cn cs L a ccd cl)) Q E s := wpAny_Name (wpAny_loadName_free hk hx hc (hv.keeps F.keep) h hn) hb
theorem fnAt_of {q : Addr} {name qual : Str} {params : Arguments} {body : List Stmt} {scope : Scope} {clo : List (Str × Addr)} {doc pm ctv : Value} {c' : Addr} {h : Heap} (F : Fr h₀ L h m) (ho : h₀.get? q = some (fnMade name qual params body scope clo doc pm c' ctv)) : FnAt q h :=
  ⟨_, _, _, _, F.keep _ _ ho⟩
end

theorem rep_flat {v : Value} : ∀ k : Nat, (List.replicate k [v]).flatten = List.replicate k v
  | 0 => rfl
  | k + 1 => by rw [List.replicate_succ, List.flatten_cons, rep_flat k]; rfl
theorem list_rep {prog : Program} {w : World} {A : Around} {E : Value → Shared → Prop} {s : Shared} {h₀ : Heap} {L : Addr} {m : Str → Option Value} {news : List (Addr × Obj)} {l : Addr} {v : Value} {n : Nat} {x : Int} {u : Tok} {Q : Value → Shared → Prop}
    (Fm : Fr h₀ L s.heap m) (N : News h₀ L s.heap news) (hm : (l, listOf #[v] n) ∈ news) (hlo : 0 ≤ x) (hhi : x ≤ 1000000)
    (h : ∀ D h', Fr h₀ L h' m → News h₀ L h' ((D, listOf (List.replicate x.toNat v).toArray 0) :: news) → (∀ p ∈ news, p.1 < D) → Q (.ref D) { s with heap := h' }) : wpAny (model prog w) A (binaryOp .Mult (.ref l) (.int x u)) Q E s := by
  have ho := (N _ hm).1
  have hsz' : (#[v] : Array Value).size * x.toNat ≤ 1000000 := by simp; omega
  refine wpAny_binaryOp_repeat_ref (T := "list") (U := "int") (by decide) ⟨_, ho, rfl⟩ (fun s' => typeIs_int s' x u) noFill_list_mul F.fills_int_mul F.slot_int_rmul repeat_list F.slot_int_index.lookup
    (call_meets F.slot_int_rmul (typeIs_int s x u) F.entry_int_rmul (F.args_int_rmul_2 _ _) (lm_int_rmul_list_any x u l #[v] n none #[])
      ⟨ho, rfl, ⟨_, ho, rfl⟩, call_meets F.slot_list_mul ⟨_, ho, rfl⟩ F.entry_list_mul (F.args_list_mul_2 _ _)
        (lm_list_mul_any l #[v] n none #[] x u (by simp [Builtin.List.listFitsIndex]; omega) (by omega) (by simp [Builtin.List.listTooLong, sizeLine]; omega))
        ⟨ho, ?_⟩⟩)
  have N' := News.push Fm N { cls := Value.type "list", data := Data.seq (List.foldl (fun x1 x2 => x1 ++ x2) #[] (List.replicate (if (#[v] : Array Value).isEmpty = true then 0 else x.toNat) #[v])) }
  have e : (#[v] : Array Value) = [v].toArray := rfl
  rw [e, listMul_foldl_if, rep_flat] at N'
  rw [e, listMul_foldl_if, rep_flat]
  exact h _ _ (Fm.push _) N' (fun p hp => Heap.lt_size (N p hp).1)

theorem ints_rep {t : Tok} {i : Int} : ∀ k : Nat, IntsAre (List.replicate k (.int i t)) (List.replicate k i)
  | 0 => .nil
  | k + 1 => .cons i t (ints_rep k)
theorem len_rep {prog : Program} {w : World} {A : Around} {E : Value → Shared → Prop} {s : Shared} {h₀ : Heap} {L : Addr} {news : List (Addr × Obj)} {l : Addr} {v : Value} {n : Nat} {x : Int} {Q : Value → Shared → Prop}
    (N : News h₀ L s.heap news) (hm : (l, listOf (List.replicate x.toNat v).toArray n) ∈ news) (h0 : 0 ≤ x) (h1 : x ≤ 1000000) (h : Q (.int x (s.toks + 1)) { s with toks := s.toks + 1 + 1 }) : wpAny (model prog w) A (call (.builtin "len") [.ref l]) Q E s := by
  have hl : s.heap.IsList l (List.replicate x.toNat v).toArray := PySem.IsL.isList (n := n) (N _ hm).1
  have e : (((List.replicate x.toNat v).toArray.size : Nat) : Int) = x := by simp; omega
  refine len_list hl (by rw [e]; omega) ?_
  rw [e]; exact h

/-- a def that stands first in the body of a def of the text -/
def nestIn (K : Frag) (f : Addr) : Option (Str × Arguments × List Stmt × Scope) := match K.lookup f with
  | some ⟨_, _, .func fd, _⟩ => (match fd.body with
    | .stmts ss => ss.findSome? fun st => match st with
      | .FunctionDef name params body _ _ _ scope _ _ _ => some (name, params, body, scope)
      | _ => none
    | _ => none)
  | _ => none

/-- a while that turns two ints of the frame -/
def W2Post (h₀ : Heap) (L : Addr) (s : Shared) (x y : Str) (m : Str → Option Value) (I : Int → Int → Prop) (μ : Int → Int → Nat) (news : List (Addr × Obj)) (Q : Flow → Shared → Prop) (q r : Int) (f : Flow) (s₂ : Shared) : Prop :=
  match f with
  | .ret v => Q (.ret v) s₂
  | .brk => Q .next s₂
  | _ => ∃ h' tk m' q' r' tq' tr', s₂ = { s with heap := h', toks := tk } ∧ Fr h₀ L h' m' ∧ News h₀ L h' news ∧ m' x = some (.int q' tq') ∧ m' y = some (.int r' tr') ∧ (∀ z, z ≠ x → z ≠ y → m' z = m z) ∧ I q' r' ∧ μ q' r' < μ q r
theorem W2Post.next {h₀ : Heap} {L : Addr} {s : Shared} {x y : Str} {m m' : Str → Option Value} {I : Int → Int → Prop} {μ : Int → Int → Nat} {news news' : List (Addr × Obj)} {Q : Flow → Shared → Prop} {q r q' r' : Int} {tq' tr' : Tok} {h' : Heap} {tk : Nat}
    (F : Fr h₀ L h' m') (N : News h₀ L h' news') (hn : ∀ p ∈ news, p ∈ news') (hx : m' x = some (.int q' tq')) (hy : m' y = some (.int r' tr')) (hz : ∀ z, z ≠ x → z ≠ y → m' z = m z) (hI : I q' r') (hμ : μ q' r' < μ q r) :
    W2Post h₀ L s x y m I μ news Q q r .next { s with heap := h', toks := tk } := ⟨h', tk, m', q', r', tq', tr', rfl, F, fun p hp => N p (hn p hp), hx, hy, hz, hI, hμ⟩
theorem while2 {prog : Program} {w : World} {A : Around} {E : Value → Shared → Prop} {Q : Flow → Shared → Prop} {s : Shared} {env : Env} {h₀ : Heap} {L : Addr} {test : Expr} {body : List Stmt} {pos : Pos} {m : Str → Option Value} {news : List (Addr × Obj)} {q r : Int} {tq tr : Tok}
    (x y : Str) (I : Int → Int → Prop) (μ : Int → Int → Nat) (F : Fr h₀ L s.heap m) (N : News h₀ L s.heap news) (hx : m x = some (.int q tq)) (hy : m y = some (.int r tr)) (hI : I q r)
    (turn : ∀ q r tq tr h tk, I q r → Fr h₀ L h (fun z => if z = x then some (.int q tq) else if z = y then some (.int r tr) else m z) → News h₀ L h news →
      wpAny (model prog w) A (isTrue test env (eval test env)) (fun b s₂ =>
        if b = true then wpAny (model prog w) A (execs body env) (W2Post h₀ L s x y m I μ news Q q r) E s₂ else Q .next s₂) E { s with heap := h, toks := tk })
    (hE : PassesOwn (model prog w) A env E := by passes_own) :
    wpAny (model prog w) A (exec (.While test body [] pos) env) Q E s := by
  refine While_inv2 (fun n m₁ nx => nx = news ∧ ∃ q r tq tr, m₁ x = some (.int q tq) ∧ m₁ y = some (.int r tr) ∧ (∀ z, z ≠ x → z ≠ y → m₁ z = m z) ∧ I q r ∧ μ q r = n) F N ⟨rfl, q, r, tq, tr, hx, hy, fun _ _ _ => rfl, hI, rfl⟩ ?_ hE
  rintro n m₁ nx h tk F₁ N₁ ⟨rfl, q, r, tq, tr, h1, h2, h3, hI, rfl⟩
  have em : m₁ = fun z => if z = x then some (.int q tq) else if z = y then some (.int r tr) else m z := by
    funext z
    by_cases a : z = x
    · simp [a, h1]
    · by_cases b : z = y
      · simp [a, b, h2, show y ≠ x from fun e => a (b.trans e)]
      · simp [a, b, h3 z a b]
  rw [em] at F₁
  refine wpAny_mono (turn q r tq tr h tk hI F₁ N₁) (fun b s₂ p => ?_) fun _ _ x => x
  cases b with
  | false => simpa using p
  | true =>
    simp only [if_true] at p ⊢
    refine wpAny_mono p (fun f s₃ q => ?_) fun _ _ x => x
    cases f with
    | ret v => exact q
    | brk => exact q
    | next =>
      obtain ⟨h', tk', m', q', r', tq', tr', rfl, F', N', a, b, c, d, e⟩ := q
      exact ⟨h', tk', m', nx, μ q' r', rfl, F', N', e, rfl, q', r', tq', tr', a, b, c, d, rfl⟩
    | cont =>
      obtain ⟨h', tk', m', q', r', tq', tr', rfl, F', N', a, b, c, d, e⟩ := q
      exact ⟨h', tk', m', nx, μ q' r', rfl, F', N', e, rfl, q', r', tq', tr', a, b, c, d, rfl⟩

theorem ws2_next {h₀ : Heap} {L : Addr} {s : Shared} {J : Nat → (Str → Option Value) → List (Addr × Obj) → Prop} {Q : Flow → Shared → Prop} {n n' : Nat} {h' : Heap} {tk : Nat} {m₂ : Str → Option Value} {news₂ all : List (Addr × Obj)}
    (F : Fr h₀ L h' m₂) (N : News h₀ L h' all) (hs : ∀ p ∈ news₂, p ∈ all) (hn : n' < n) (hJ : J n' m₂ news₂) : WhileStep2 h₀ L s J Q n .next { s with heap := h', toks := tk } :=
  ⟨h', tk, m₂, news₂, n', rfl, F, fun p hp => N p (hs p hp), hn, hJ⟩
/-- a for over reversed(list) by an invariant -/
def RvPost (h₀ : Heap) (L : Addr) (s : Shared) (I ax : Addr) (it lo : Obj) (Jn : (Str → Option Value) → List (Addr × Obj) → Prop) (Q : Flow → Shared → Prop) (f : Flow) (s₂ : Shared) : Prop :=
  match f with
  | .ret v => Q (.ret v) s₂
  | .brk => Q .next s₂
  | _ => ∃ h' tk m' news', s₂ = { s with heap := h', toks := tk } ∧ Fr h₀ L h' m' ∧ News h₀ L h' (news' ++ [(I, it), (ax, lo)]) ∧ (∀ p ∈ news', p.1 ≠ I ∧ p.1 ≠ ax) ∧ Jn m' news'
theorem RvPost.next {h₀ : Heap} {L : Addr} {s : Shared} {I ax : Addr} {it lo : Obj} {Jn : (Str → Option Value) → List (Addr × Obj) → Prop} {Q : Flow → Shared → Prop} {h' : Heap} {tk : Nat} {m' : Str → Option Value} {news' all : List (Addr × Obj)}
    (F : Fr h₀ L h' m') (N : News h₀ L h' all) (hs : ∀ p ∈ news' ++ [(I, it), (ax, lo)], p ∈ all) (ho : ∀ p ∈ news', p.1 ≠ I ∧ p.1 ≠ ax) (hJ : Jn m' news') : RvPost h₀ L s I ax it lo Jn Q .next { s with heap := h', toks := tk } :=
  ⟨h', tk, m', news', rfl, F, fun p hp => N p (hs p hp), ho, hJ⟩
theorem iter_rev {prog : Program} {w : World} {A : Around} {E : Value → Shared → Prop} {s : Shared} {env : Env} {h₀ : Heap} {x : Str} {body : List Stmt} {Q : Flow → Shared → Prop} {ax I : Addr} {vs : List Value} {n0 : Nat} {m₀ : Str → Option Value} {news all : List (Addr × Obj)}
    (J : Nat → (Str → Option Value) → List (Addr × Obj) → Prop)
    (hh : A.handled = none) (F : Fr h₀ env.locals s.heap m₀) (N : News h₀ env.locals s.heap all) (hs : ∀ p ∈ (I, revObj ax ((vs.length : Int) - 1)) :: (ax, listOf vs.toArray n0) :: news, p ∈ all) (hne : ax ≠ I) (hoff : ∀ p ∈ news, p.1 ≠ I ∧ p.1 ≠ ax) (hJ : J 0 m₀ news)
    (turn : ∀ i v m₁ news₁ it h tk, i < vs.length → vs.reverse[i]? = some v → J i m₁ news₁ → (∀ p ∈ news₁, p.1 ≠ I ∧ p.1 ≠ ax) → Fr h₀ env.locals h (fun y => if y = x then some v else m₁ y) → News h₀ env.locals h (news₁ ++ [(I, it), (ax, listOf vs.toArray n0)]) →
      wpAny (model prog w) A (execs body env) (RvPost h₀ env.locals s I ax it (listOf vs.toArray n0) (J (i + 1)) Q) E { s with heap := h, toks := tk })
    (done : ∀ m₁ news₁ h tk, J vs.length m₁ news₁ → Fr h₀ env.locals h m₁ → News h₀ env.locals h news₁ → Q .next { s with heap := h, toks := tk }) :
    wpAny (model prog w) A (pyIter (.ref I)) (fun it s₂ => LoopAtV prog w A h₀ env x body Q E it s₂) E s := by
  have hIx := N _ (hs _ (.head _))
  have hax := N _ (hs _ (.tail _ (.head _)))
  have hl : s.heap.IsList ax vs.toArray := ⟨_, hax.1, rfl, n0, rfl⟩
  have hit : s.heap.IsRevIter I ax ((vs.length : Int) - 1) := ⟨_, hIx.1, rfl, rfl⟩
  refine wpAny_pyIter_revIter hit ?_
  have W := Walks.listRev (prog := prog) (w := w) hh I ax hne vs.toArray
  have hlen : vs.toArray.size = vs.length := by simp
  rw [hlen] at W
  let J' : Nat → (Str → Option Value) → List (Addr × Obj) → Prop := fun i m₁ news₁ => (ax, listOf vs.toArray n0) ∈ news₁ ∧ ∃ news₂, (∀ p ∈ news₂, p ∈ news₁) ∧ (∀ p ∈ news₂, p.1 ≠ I ∧ p.1 ≠ ax) ∧ J i m₁ news₂
  refine ⟨I, _, _, vs.length, _, _, m₀, (ax, listOf vs.toArray n0) :: news, J', rfl, W, ?_, ?_, ?_, ⟨Nat.zero_le _, ?_, hl⟩, F, (fun p hp => N p (hs _ (.tail _ hp))), ⟨.head _, news, fun p hp => .tail _ hp, hoff, hJ⟩, ?_, ?_⟩
  · intro hmm
    rcases List.mem_cons.mp hmm with e | hmm
    · exact hIx.2.1 e.symm
    · exact hax.2.1 (List.mem_singleton.mp hmm).symm
  · intro b hb
    rw [List.mem_singleton.mp hb]
    exact hIx.2.2
  · intro p hp hI
    rcases List.mem_cons.mp hp with rfl | hp
    · exact hne (List.mem_singleton.mp hI)
    · exact (hoff p hp).1 (List.mem_singleton.mp hI)
  · have e : (vs.length : Int) - 1 - ((0 : Nat) : Int) = (vs.length : Int) - 1 := by omega
    rw [e]
    exact hit
  · rintro i v m₁ news₁ s₁ own ⟨hh', tk', rfl⟩ hin hP ⟨hmem₁, news₂, hs₂, hof₂, hJ₂⟩ hofs hown hget hall hst F₁ N₁
    obtain ⟨it, hit', hic, hid⟩ := hst.2.1
    have hmemI := hall I (List.mem_cons_self ..) hIx.2.2 _ hit'
    have hv : vs.reverse[i]? = some v := by
      rw [List.getElem?_reverse hin]
      simpa using hP
    have N₂ : News h₀ env.locals hh' (news₂ ++ [(I, it), (ax, listOf vs.toArray n0)]) := fun p hp => by
      rcases List.mem_append.mp hp with hp | hp
      · exact N₁ _ (List.mem_append_right _ (hs₂ p hp))
      · rcases List.mem_cons.mp hp with rfl | hp
        · exact N₁ _ (List.mem_append_left _ hmemI)
        · rw [List.mem_singleton.mp hp]; exact N₁ _ (List.mem_append_right _ hmem₁)
    refine wpAny_mono (turn i v m₁ news₂ it hh' tk' hin hv hJ₂ hof₂ F₁ N₂) (fun f s₂ p => ?_) fun _ _ e => e
    have fin : (∃ h' tk m' news', s₂ = { s with heap := h', toks := tk } ∧ Fr h₀ env.locals h' m' ∧ News h₀ env.locals h' (news' ++ [(I, it), (ax, listOf vs.toArray n0)]) ∧ (∀ p ∈ news', p.1 ≠ I ∧ p.1 ≠ ax) ∧ J (i + 1) m' news') →
        LoopStepU h₀ env.locals [I] own (J' (i + 1)) { s with heap := hh', toks := tk' } .next s₂ := by
      rintro ⟨h', tk, m', news', e, F', N', ho, r⟩
      refine ⟨rfl, h', tk, m', (ax, listOf vs.toArray n0) :: news', e, F', fun p hp => ?_, fun p hp hI => ?_, .head _, news', fun p hp => .tail _ hp, ho, r⟩
      · rcases List.mem_append.mp hp with hp | hp
        · have h2 : hh'.get? p.1 = some p.2 := hget p hp
          rcases List.mem_cons.mp (hown p hp) with h1 | h1
          · have h3 : p = (I, it) := by
              rw [h1, hit'] at h2
              exact Prod.ext h1 (Option.some.inj h2).symm
            rw [h3]; exact N' _ (List.mem_append_right _ (.head _))
          · have h1' : p.1 = ax := List.mem_singleton.mp h1
            have h3 : p = (ax, listOf vs.toArray n0) := by
              rw [h1', (N₁ _ (List.mem_append_right _ hmem₁)).1] at h2
              exact Prod.ext h1' (Option.some.inj h2).symm
            rw [h3]; exact N' _ (List.mem_append_right _ (.tail _ (.head _)))
        · rcases List.mem_cons.mp hp with rfl | hp
          · exact N' _ (List.mem_append_right _ (.tail _ (.head _)))
          · exact N' _ (List.mem_append_left _ hp)
      · rcases List.mem_cons.mp hp with rfl | hp
        · exact hne (List.mem_singleton.mp hI)
        · exact (ho p hp).1 (List.mem_singleton.mp hI)
    cases f with
    | ret v => exact .ret p
    | brk => exact .brk p
    | next => exact .next (fin p)
    | cont => exact .cont (fin p)
  · rintro h' tk m' news' F' N' _ ⟨_, news₂, hs₂, _, hJ⟩
    exact done _ _ _ _ hJ F' fun p hp => N' p (hs₂ p hp)

/-- a halt for the walk: no line takes it -/
def Halt (P : Prop) : Prop := P
theorem halt {P : Prop} (h : Halt P) : P := h
theorem led_of {g h : Heap} {L : Addr} {small : List (Addr × Obj)} (N : News g L h small) : ∀ q ∈ small, h.get? q.1 = some q.2 ∧ g.get? q.1 = none := fun q hq => ⟨(N q hq).1, (N q hq).2.2⟩
theorem led_head {g h : Heap} {L : Addr} {x : Addr × Obj} {small : List (Addr × Obj)} (N : News g L h (x :: small)) : ∀ q ∈ [x], h.get? q.1 = some q.2 ∧ g.get? q.1 = none := fun q hq => by
  rw [List.mem_singleton] at hq; subst hq; exact led_of N _ (.head _)
theorem led_sub {g h : Heap} {L : Addr} {sm small : List (Addr × Obj)} (N : News g L h small) (hs : ∀ q ∈ sm, q ∈ small) : ∀ q ∈ sm, h.get? q.1 = some q.2 ∧ g.get? q.1 = none := fun q hq => led_of N q (hs q hq)
/-- the table of the codes that a def has made -/
abbrev TabF (P : Addr) (ln col : Int) (qual : Str) (sm : List (Addr × Obj)) : Prop :=
  ∃ c oc vs t, sm = [(c, oc), (P, tabObj #[rawInt ln, rawInt col, .ref c])] ∧ c ≠ P ∧ oc.data = .fields vs ∧ vs[1]? = some (.str qual t)
abbrev Tab (P : Addr) (ln col : Int) (qual : Str) (sm : List (Addr × Obj)) : Prop := sm = [(P, tabObj #[])] ∨ TabF P ln col qual sm
abbrev tupO (vs : List Value) : Obj := { cls := .type "tuple", data := .seq vs.toArray }
abbrev RTup2 (q r : Int) : Value → List (Addr × Obj) → Prop := fun v sm => ∃ t k1 k2, v = .ref t ∧ sm = [(t, tupO [.int q k1, .int r k2])]
end Mine

namespace Mine
example : PySem.Challenge.rw_kn0018_01 = PySem.Challenge.rw_kn0018_01 ∧ hd.heap_39 = hd.heap_39 := by k_fill; exact ⟨rfl, rfl⟩

local macro_rules | `(tactic| bits_by_make) => `(tactic| with_reducible assumption)
local macro_rules | `(tactic| walk_at "call builtin:divmod") => `(tactic| ((with_reducible show wpAny _ _ (call (Value.builtin _) [Value.int _ _, Value.int _ _]) _ _ _); refine divmod_N (by assumption) (by assumption) (by omega) ?_ (Or.inl (no_pyl (by assumption))); intro h' F' N'))
section
variable {prog : Program} {w : World} {p : Program} {loose : List Str} {mean : ExcName → Option Value} {mg mb : Str → Option Value}
set_option maxRecDepth 100000 in
set_option maxHeartbeats 4000000 in
theorem div2_small {a b n : Int} {ta tb tn : Tok} (hb : 0 < b) (hbb : Builtin.Int.intBits b ≤ 9000) (hbits : ((Builtin.Int.intBits a : Nat) : Int) - n ≤ 4000) :
    Con prog w (hd.heap_39 w.params) p loose mean mg mb 2 20 21 [.int a ta, .int b tb, .int n tn] [] (RTup2 (a.fdiv b) (a.fmod b)) := by
  intro dp un gd base g outer s R hd hu G X T hr
  have B := G.below
  refine enter_def (binds := [("a", .int a ta), ("b", .int b tb), ("n", .int n tn)]) G X T (by k_is) (by k_is) (by show dp < _; omega) (by exact BindsTo.of_eq rfl) (by exact locs rfl) ?_ (by rfl) (by rfl) (by rfl) (by decide)
  k_whole
  intro L' h' F' N' l1
  (try dsimp only)
  (try k_fold)
  k_steps
  exact hr _ _ _ _ (Fr.keep (by assumption)) (led_of (by assumption)) ⟨_, _, _, rfl, rfl⟩

local macro_rules | `(tactic| walk_at "call ref") => `(tactic| ((with_reducible show wpAny _ _ (call (Value.ref 21) _) _ _ _); refine halt ?_))
local macro_rules | `(tactic| walk_at "exec While") => `(tactic| (refine halt ?_))
local macro_rules | `(tactic| walk_at "exec While Compare cons nil") => `(tactic| (refine halt ?_))
set_option maxRecDepth 100000 in
set_option maxHeartbeats 4000000 in
theorem div3_small {a12 a3 b b1 b2 n : Int} {t1 t2 t3 t4 t5 t6 : Tok} (hn : 1 ≤ n) (hn2 : n ≤ 4000) (hb : b = b1 * 2 ^ n.toNat + b2) (h20 : 0 ≤ b2) (h21 : b2 < 2 ^ n.toNat) (h10 : 0 < b1) (h11 : b1 < 2 ^ n.toNat)
    (ha : 0 ≤ a12) (h30 : 0 ≤ a3) (h31 : a3 < 2 ^ n.toNat) (hA : a12 * 2 ^ n.toNat + a3 < 2 ^ n.toNat * b) :
    Con prog w (hd.heap_39 w.params) p loose mean mg mb 4 40 28 [.int a12 t1, .int a3 t2, .int b t3, .int b1 t4, .int b2 t5, .int n t6] [] (RTup2 ((a12 * 2 ^ n.toNat + a3).fdiv b) ((a12 * 2 ^ n.toNat + a3).fmod b)) := by
  obtain ⟨b0, bP, aP⟩ := div3_bits (by omega) rfl hb h20 h21 h10 h11 ha h30 hA
  have hN : n.toNat ≤ 4000 := by omega
  have ba12 : Builtin.Int.intBits a12 ≤ 2 * n.toNat := bits_lt ha aP
  have hbits : ((Builtin.Int.intBits a12 : Nat) : Int) - n ≤ 4000 := by omega
  replace ba12 : Builtin.Int.intBits a12 ≤ 9000 := by omega
  have bb1 : Builtin.Int.intBits b1 ≤ 9000 := Nat.le_trans (bits_lt (by omega) h11) (by omega)
  have ba3 : Builtin.Int.intBits a3 ≤ 9000 := Nat.le_trans (bits_lt h30 h31) (by omega)
  have bb : Builtin.Int.intBits b ≤ 9000 := Nat.le_trans (bits_lt (by omega) bP) (by omega)
  have bb2 : Builtin.Int.intBits b2 ≤ 9000 := Nat.le_trans (bits_lt h20 h21) (by omega)
  intro dp un gd base g outer s R hd hu G X T hr
  have B := G.below
  refine enter_def (binds := [("a12", .int a12 t1), ("a3", .int a3 t2), ("b", .int b t3), ("b1", .int b1 t4), ("b2", .int b2 t5), ("n", .int n t6)]) G X T (by k_is) (by k_is) (by show dp < _; omega) (by exact BindsTo.of_eq rfl) (by exact locs rfl) ?_ (by rfl) (by rfl) (by rfl) (by decide)
  k_whole
  intro L' h' F' N' l1
  (try dsimp only)
  (try k_fold)
  k_steps
  · unfold Halt
    rename Fr _ _ _ _ => F1
    rename News _ _ _ _ => N1
    rename Int.fdiv a12 _ = b1 => hq
    dsimp only at F1 N1
    refine while2 (prog := prog) (news := []) "q" "r" (fun q r => q * b + r = a12 * 2 ^ n.toNat + a3 ∧ r < b) (fun _ r => (-r).toNat) F1 (fun _ h => nomatch h) (by exact rfl) (by exact rfl) ?_ ?_
    · exact div3_top rfl hb h20 h21 h10 ha h30 h31 hA hq
    · clear F1 N1
      intro q r tq tr h2 tk2 ⟨hI1, hI2⟩ F1 N1
      (try k_fold)
      k_steps
      · exact W2Post.next (by assumption) (by assumption) (fun _ h => nomatch h) (by exact rfl) (by exact rfl) (by intro z a b; simp [a, b]) ⟨by rw [Int.sub_mul]; omega, by omega⟩ (by omega)
      · obtain ⟨e1, e2⟩ := fdm_of b0 hI1 (by omega) hI2
        rw [e1, e2] at hr
        exact hr _ _ _ _ (Fr.keep (by assumption)) (led_of (by assumption)) ⟨_, _, _, rfl, rfl⟩
  · unfold Halt
    refine con_use (small := []) (div2_small h10 bb1 hbits) B (by assumption) X (by assumption) T rfl rfl rfl rfl (by show dp + 1 + 2 < _; omega) (by show un + 3 + 20 < _; omega) (fun _ h => nomatch h) (rest := []) (fun _ h => nomatch h) (fun _ _ _ h => nomatch h) ?_
    rintro r small' h1 tk1 F1 N1 - ⟨t, k1, k2, rfl, rfl⟩
    simp only [List.append_nil] at N1
    (try dsimp only)
    k_steps
    unfold Halt
    rename Fr _ _ _ _ => F1
    rename News _ _ _ _ => N1
    dsimp only at F1 N1
    refine while2 (prog := prog) (news := []) "q" "r" (fun q r => q * b + r = a12 * 2 ^ n.toNat + a3 ∧ r < b) (fun _ r => (-r).toNat) F1 (fun _ h => nomatch h) (by exact rfl) (by exact rfl) ?_ ?_
    · exact div3_low rfl hb h20 h21 h10 ha h30 h31
    · clear F1 N1
      intro q r tq tr h2 tk2 ⟨hI1, hI2⟩ F1 N1
      (try k_fold)
      k_steps
      · exact W2Post.next (by assumption) (by assumption) (fun _ h => nomatch h) (by exact rfl) (by exact rfl) (by intro z a b; simp [a, b]) ⟨by rw [Int.sub_mul]; omega, by omega⟩ (by omega)
      · obtain ⟨e1, e2⟩ := fdm_of b0 hI1 (by omega) hI2
        rw [e1, e2] at hr
        exact hr _ _ _ _ (Fr.keep (by assumption)) (led_of (by assumption)) ⟨_, _, _, rfl, rfl⟩

local macro_rules | `(tactic| walk_at "call ref") => `(tactic| ((with_reducible show wpAny _ _ (call (Value.ref 28) _) _ _ _); refine halt ?_))
local macro_rules | `(tactic| walk_at "M nn") => `(tactic| first
  | assumption
  | omega
  | exact Int.ediv_nonneg (by walk_at "M nn") (by first | omega | exact Int.le_of_lt (pow_pos' _))
  | exact Int.emod_nonneg _ (Int.ne_of_gt (pow_pos' _)))
local macro_rules | `(tactic| walk_at "binaryOp RShift int int") => `(tactic| ((with_reducible refine rshift_e ?_ ?_); walk_at "M nn"))
local macro_rules | `(tactic| walk_at "binaryOp RShift int int") => `(tactic| (with_reducible refine rshift_1 ?_))
local macro_rules | `(tactic| walk_at "inplaceOp RShift int int") => `(tactic| (with_reducible refine irshift_1 ?_))
local macro_rules | `(tactic| walk_at "inplaceOp LShift int int") => `(tactic| ((with_reducible refine ilshift_1 ?kb ?_); (case kb => exact Nat.le_trans (by bits_by_make) (by decide))))
local macro_rules | `(tactic| walk_at "binaryOp BitAnd int int") => `(tactic| ((with_reducible refine and_mask ?_ ?_); walk_at "M nn"))
local macro_rules | `(tactic| walk_at "binaryOp BitAnd int int") => `(tactic| (with_reducible refine and_1 ?_))
local macro_rules | `(tactic| walk_at "binaryOp LShift int int") => `(tactic| ((with_reducible refine one_shl ?_ ?_ ?_); walk_at "M nn"; omega))
local macro_rules | `(tactic| bits_by_make) => `(tactic| ((with_reducible apply bits_ediv); bits_by_make))

theorem div2_calls {a b n h : Int} (hh : 1 ≤ h) (hh2 : h ≤ 4000) (hn : n = 2 * h) (hb0 : 2 ^ (n.toNat - 1) ≤ b) (hb1 : b < 2 ^ n.toNat) (ha : 0 ≤ a) (ha1 : a < 2 ^ n.toNat * b) :
    (∀ t1 t2 t3 t4 t5 t6, Con prog w (hd.heap_39 w.params) p loose mean mg mb 4 40 28 [.int (a / 2 ^ n.toNat) t1, .int (a / 2 ^ h.toNat % 2 ^ h.toNat) t2, .int b t3, .int (b / 2 ^ h.toNat) t4, .int (b % 2 ^ h.toNat) t5, .int h t6] []
      (RTup2 ((a / 2 ^ h.toNat).fdiv b) ((a / 2 ^ h.toNat).fmod b))) ∧
    (∀ t1 t2 t3 t4 t5 t6, Con prog w (hd.heap_39 w.params) p loose mean mg mb 4 40 28 [.int ((a / 2 ^ h.toNat).fmod b) t1, .int (a % 2 ^ h.toNat) t2, .int b t3, .int (b / 2 ^ h.toNat) t4, .int (b % 2 ^ h.toNat) t5, .int h t6] []
      (RTup2 (((a / 2 ^ h.toNat).fmod b * 2 ^ h.toNat + a % 2 ^ h.toNat).fdiv b) (((a / 2 ^ h.toNat).fmod b * 2 ^ h.toNat + a % 2 ^ h.toNat).fmod b))) ∧
    Builtin.bitOr ((a / 2 ^ h.toNat).fdiv b * 2 ^ h.toNat) (((a / 2 ^ h.toNat).fmod b * 2 ^ h.toNat + a % 2 ^ h.toNat).fdiv b) = a.fdiv b ∧ ((a / 2 ^ h.toNat).fmod b * 2 ^ h.toNat + a % 2 ^ h.toNat).fmod b = a.fmod b := by
  have e : (2 : Int) ^ n.toNat = 2 ^ h.toNat * 2 ^ h.toNat := by rw [← pow_add']; congr 1; omega
  have hb0' : (2 : Int) ^ h.toNat ≤ b := Int.le_trans (pow_le_pow' (by omega)) hb0
  rw [e] at hb1 ha1 ⊢
  obtain ⟨p1, p2, p3, p4, p5, p6, p7, p8, p9, p10⟩ := div2_pre rfl hb0' hb1 ha ha1
  have hb : 0 < b := Int.lt_of_lt_of_le (pow_pos' _) hb0
  obtain ⟨j1, j2, j3, j4, j5, j6⟩ := div2_join rfl hb ha p10
  refine ⟨fun t1 t2 t3 t4 t5 t6 => ?_, fun t1 t2 t3 t4 t5 t6 => div3_small hh hh2 p1 p2 p3 p4 p5 j1 j2 j3 j4, j5, j6⟩
  have := div3_small (prog := prog) (w := w) (p := p) (loose := loose) (mean := mean) (mg := mg) (mb := mb) (t1 := t1) (t2 := t2) (t3 := t3) (t4 := t4) (t5 := t5) (t6 := t6) hh hh2 p1 p2 p3 p4 p5 p6 p7 p8 (by rw [p9]; exact p10)
  rw [p9] at this
  exact this

set_option maxRecDepth 100000 in
set_option maxHeartbeats 4000000 in
theorem div2 {a b n : Int} {ta tb tn : Tok} (hn : 1 ≤ n) (hn2 : n ≤ 8000) (hb0 : 2 ^ (n.toNat - 1) ≤ b) (hb1 : b < 2 ^ n.toNat) (ha : 0 ≤ a) (ha1 : a < 2 ^ n.toNat * b) :
    Con prog w (hd.heap_39 w.params) p loose mean mg mb 6 60 21 [.int a ta, .int b tb, .int n tn] [] (RTup2 (a.fdiv b) (a.fmod b)) := by
  have hp : (0 : Int) < b := Int.lt_of_lt_of_le (pow_pos' _) hb0
  have bb : Builtin.Int.intBits b ≤ 9000 := Nat.le_trans (bits_lt (by omega) hb1) (by omega)
  have ba : Builtin.Int.intBits a ≤ 20000 := by
    refine Nat.le_trans (bits_lt (k := n.toNat + n.toNat) ha ?_) (by omega)
    rw [pow_add']
    exact Int.lt_trans ha1 (Int.mul_lt_mul_of_pos_left hb1 (pow_pos' _))
  by_cases hs : ((Builtin.Int.intBits a : Nat) : Int) - n ≤ 4000
  · exact (div2_small hp bb hs).mono (by omega) (by omega) fun _ _ h => h
  intro dp un gd base g outer s R hd hu G X T hr
  have B := G.below
  refine enter_def (binds := [("a", .int a ta), ("b", .int b tb), ("n", .int n tn)]) G X T (by k_is) (by k_is) (by show dp < _; omega) (by exact BindsTo.of_eq rfl) (by exact locs rfl) ?_ (by rfl) (by rfl) (by rfl) (by decide)
  k_whole
  intro L' h' F' N' l1
  (try dsimp only)
  (try k_fold)
  k_steps
  · unfold Halt
    rename n % 2 ≠ 0 => hodd
    have hn1 : (n + 1).toNat - 1 = (n.toNat - 1) + 1 := by omega
    have hn3 : (n + 1).toNat = n.toNat + 1 := by omega
    have c1 : (2 : Int) ^ ((n + 1).toNat - 1) ≤ b * 2 := by rw [hn1, Int.pow_succ]; omega
    have c2 : b * 2 < (2 : Int) ^ (n + 1).toNat := by rw [hn3, Int.pow_succ]; omega
    have c3 : a * 2 < (2 : Int) ^ (n + 1).toNat * (b * 2) := by
      rw [hn3, Int.pow_succ]
      have : (2 : Int) ^ n.toNat * 2 * (b * 2) = 2 ^ n.toNat * b * 2 * 2 := by grind
      rw [this]
      have : 0 < (2 : Int) ^ n.toNat * b := Int.mul_pos (pow_pos' _) hp
      omega
    obtain ⟨C1, C2, V1, V2⟩ := div2_calls (prog := prog) (w := w) (p := p) (loose := loose) (mean := mean) (mg := mg) (mb := mb) (a := a * 2) (b := b * 2) (n := n + 1) (h := (n + 1) / 2) (by omega) (by omega) (by omega) c1 c2 (by omega) c3
    refine con_use (small := []) (C1 _ _ _ _ _ _) B (by assumption) X (by assumption) T rfl rfl rfl rfl (by show dp + 1 + 4 < _; omega) (by show un + 3 + 40 < _; omega) (fun _ h => nomatch h) (rest := []) (fun _ h => nomatch h) (fun _ _ _ h => nomatch h) ?_
    rintro r small' h1 tk1 F1 N1 - ⟨t, k1, k2, rfl, rfl⟩
    simp only [List.append_nil] at N1
    (try dsimp only)
    k_steps
    unfold Halt
    refine con_use (small := []) (C2 _ _ _ _ _ _) B (by assumption) X (by assumption) T rfl rfl rfl rfl (by show dp + 1 + 4 < _; omega) (by show un + 3 + 40 < _; omega) (fun _ h => nomatch h) (rest := []) (fun _ h => nomatch h) (fun _ _ _ h => nomatch h) ?_
    rintro r small' h1 tk1 F1 N1 - ⟨t, k1, k2, rfl, rfl⟩
    simp only [List.append_nil] at N1
    (try dsimp only)
    k_steps
    · obtain ⟨d1, d2⟩ := fdm_double (a := a) hp
      rw [d1] at V1
      have e2 : a.fmod b = ((a * 2 / 2 ^ ((n + 1) / 2).toNat).fmod (b * 2) * 2 ^ ((n + 1) / 2).toNat + a * 2 % 2 ^ ((n + 1) / 2).toNat).fmod (b * 2) / 2 := by rw [V2, d2]; omega
      rw [← V1, e2] at hr
      exact hr _ _ _ _ (Fr.keep (by assumption)) (led_head (by assumption)) ⟨_, _, _, rfl, rfl⟩
    · exfalso; omega
  · unfold Halt
    have hev : n % 2 = 0 := by omega
    obtain ⟨C1, C2, V1, V2⟩ := div2_calls (prog := prog) (w := w) (p := p) (loose := loose) (mean := mean) (mg := mg) (mb := mb) (a := a) (b := b) (n := n) (h := n / 2) (by omega) (by omega) (by omega) hb0 hb1 ha ha1
    refine con_use (small := []) (C1 _ _ _ _ _ _) B (by assumption) X (by assumption) T rfl rfl rfl rfl (by show dp + 1 + 4 < _; omega) (by show un + 3 + 40 < _; omega) (fun _ h => nomatch h) (rest := []) (fun _ h => nomatch h) (fun _ _ _ h => nomatch h) ?_
    rintro r small' h1 tk1 F1 N1 - ⟨t, k1, k2, rfl, rfl⟩
    simp only [List.append_nil] at N1
    (try dsimp only)
    k_steps
    unfold Halt
    refine con_use (small := []) (C2 _ _ _ _ _ _) B (by assumption) X (by assumption) T rfl rfl rfl rfl (by show dp + 1 + 4 < _; omega) (by show un + 3 + 40 < _; omega) (fun _ h => nomatch h) (rest := []) (fun _ h => nomatch h) (fun _ _ _ h => nomatch h) ?_
    rintro r small' h1 tk1 F1 N1 - ⟨t, k1, k2, rfl, rfl⟩
    simp only [List.append_nil] at N1
    (try dsimp only)
    k_steps
    · exfalso; omega
    · rw [← V1, ← V2] at hr
      exact hr _ _ _ _ (Fr.keep (by assumption)) (led_head (by assumption)) ⟨_, _, _, rfl, rfl⟩
end
end Mine

namespace Mine
example : PySem.Challenge.rw_kn0018_01 = PySem.Challenge.rw_kn0018_01 ∧ hd.heap_39 = hd.heap_39 := by k_fill; exact ⟨rfl, rfl⟩

local macro_rules | `(tactic| bits_by_make) => `(tactic| with_reducible assumption)
local macro_rules | `(tactic| bits_by_make) => `(tactic| ((with_reducible apply bits_ediv); bits_by_make))
local macro_rules | `(tactic| walk_at "M nn") => `(tactic| first
  | assumption
  | omega
  | exact Int.ediv_nonneg (by walk_at "M nn") (by first | omega | exact Int.le_of_lt (pow_pos' _))
  | exact Int.emod_nonneg _ (Int.ne_of_gt (pow_pos' _)))
local macro_rules | `(tactic| walk_at "binaryOp RShift int int") => `(tactic| ((with_reducible refine rshift_e ?_ ?_); walk_at "M nn"))
local macro_rules | `(tactic| walk_at "binaryOp RShift int int") => `(tactic| (with_reducible refine rshift_1 ?_))
local macro_rules | `(tactic| walk_at "binaryOp LShift int int") => `(tactic| ((with_reducible refine lshift_int ?kbn ?kbs ?_); (case kbn => walk_at "M nn"); (case kbs => exact kbm_shl (by bits_by_make) (by omega) (by decide))))
local macro_rules | `(tactic| walk_at "binaryOp BitXor int int") => `(tactic| ((with_reducible refine xor_high ?_ ?_); walk_at "M nn"))
local macro_rules | `(tactic| walk_at "eval Name") => `(tactic| (k_here; k_dflt (refine' name_free ?F ?c ?g ?_ ?a ?b; (case a => rfl); (case b => rfl); (case F => k_asm); (case c => first | assumption | rfl); (case g => assumption); k_whole)))
local macro_rules | `(tactic| walk_at "callWith ref") => `(tactic| (k_here; k_dflt (refine' callWith_F ?k1 ?_; (case k1 => exact fnAt_of (by k_asm) (by assumption)); k_whole)))
local macro_rules | `(tactic| walk_at "And") => `(tactic| ((with_reducible show FnAt _ _ ∧ _); refine ⟨fnAt_of (by k_asm) (by assumption), ?_⟩; try dsimp only [List.nil_append, List.cons_append]))
local macro_rules | `(tactic| walk_at "call ref") => `(tactic| (refine halt ?_))

section
variable {prog : Program} {w : World} {p : Program} {loose : List Str} {mean : ExcName → Option Value} {mg mb : Str → Option Value}

abbrev Inner1 (w : World) (cl : List (Str × Addr)) (l f : Addr) (n : Int) (tn : Tok) (g : Heap) : Prop :=
  ∃ (name qual : Str) (params : Arguments) (body : List Stmt) (scope : Scope) (doc pm ctv : Value) (c' ca ci cn : Addr), nestIn (hd.heap_39 w.params) 35 = some (name, params, body, scope) ∧
    g.get? f = some (fnMade name qual params body scope cl doc pm c' ctv) ∧ g.CodeRec (.ref c') qual ∧
    cl.lookup (Str.ofString "a_digits") = some ca ∧ cl.lookup (Str.ofString "inner") = some ci ∧ cl.lookup (Str.ofString "n") = some cn ∧
    g.IsCell ca (some (.ref l)) ∧ g.IsCell ci (some (.ref f)) ∧ g.IsCell cn (some (.int n tn))
theorem Inner1.keeps {w : World} {cl : List (Str × Addr)} {l f : Addr} {n : Int} {tn : Tok} {g g' : Heap} (x : Inner1 w cl l f n tn g) (k : ∀ b o, g.get? b = some o → g'.get? b = some o) : Inner1 w cl l f n tn g' :=
  let ⟨a1, a2, a3, a4, a5, a6, a7, a8, a9, b1, b2, b3, e1, e2, e3, e4, e5, e6, e7, e8, e9⟩ := x
  ⟨a1, a2, a3, a4, a5, a6, a7, a8, a9, b1, b2, b3, e1, k _ _ e2, e3.keeps k, e4, e5, e6, e7.keeps k, e8.keeps k, e9.keeps k⟩

def Inner1C (prog : Program) (w : World) (p : Program) (loose : List Str) (mean : ExcName → Option Value) (mg mb : Str → Option Value) (cl : List (Str × Addr)) (l f : Addr) (n : Int) (tn : Tok) (n0 : Nat) (dd : Nat) : Prop :=
  ∀ {x L R : Int} {tx tL tR : Tok} {vs : List Value} {ns : List Int},
    IntsAre vs ns → 0 ≤ L → L < R → R ≤ ns.length → R - L ≤ 2 ^ dd → ns.length ≤ 100000 → 0 ≤ x → x < 2 ^ (n * (R - L)).toNat → n * (R - L) ≤ 100000 →
    ConP prog w (hd.heap_39 w.params) p loose mean mg mb (dd + 1) (4 * dd + 20) (Inner1 w cl l f n tn) f [.int x tx, .int L tL, .int R tR] [(l, listOf vs.toArray n0)]
      (fun r sm => r = .none ∧ ∃ vs' ns', sm = [(l, listOf vs'.toArray n0)] ∧ IntsAre vs' ns' ∧ Filled n x L R ns ns')

set_option maxRecDepth 100000 in
set_option maxHeartbeats 4000000 in
theorem inner1_step {cl : List (Str × Addr)} {l f : Addr} {n : Int} {tn : Tok} {n0 : Nat} (hn : 1 ≤ n) (dd : Nat) (ih : ∀ d', d' + 1 = dd → Inner1C prog w p loose mean mg mb cl l f n tn n0 d') : Inner1C prog w p loose mean mg mb cl l f n tn n0 dd := by
  intro x L R tx tL tR vs ns hi h0 hLR hR hd2 hlen hx0 hx1 hsz
  intro dp un gd base g outer s R' hd hu G X T hP hr
  have hP' := hP
  obtain ⟨name, qual, params, body, scope, doc, pm, ctv, c', ca, ci, cn, hN, hf, hcode, hl1, hl2, hl3, hc1, hc2, hc3⟩ := hP
  cases hN
  have B := G.below
  by_cases hleaf : L + 1 = R
  · refine enter_nest (binds := [("x", .int x tx), ("L", .int L tL), ("R", .int R tR)]) G T hf hcode (by show dp < _; omega) (by exact BindsTo.of_eq rfl) (by exact locs rfl) ?_ (by rfl) (by rfl) (by rfl) (by decide)
    k_whole
    intro L' h' F' N' l1
    (try dsimp only)
    (try k_fold)
    k_steps
    any_goals (exfalso; omega)
    exact hr _ _ _ _ (Fr.keep (by assumption)) (led_of (by assumption)) ⟨rfl, _, _, rfl, by assumption, filled_leaf hn h0 hR hleaf hx0 hx1⟩
  · obtain ⟨d', rfl⟩ : ∃ d', dd = d' + 1 := by
      cases dd with
      | zero => exact absurd hd2 (by simp; omega)
      | succ d' => exact ⟨d', rfl⟩
    obtain ⟨m1, m2, m3, m4, m5, m6, m7, m8, m9, m10⟩ := half_sizes hn h0 (by omega) hd2 hx0 hx1 hsz
    have bx : Builtin.Int.intBits x ≤ 100000 := Nat.le_trans (bits_lt hx0 hx1) (by omega)
    have bn : Builtin.Int.intBits n ≤ 100000 := by
      have := Int.mul_le_mul_of_nonneg_left (show 1 ≤ R - L by omega) (show 0 ≤ n by omega)
      exact Nat.le_trans (PySem.intBits_le_64 (by omega) (by omega)) (by decide)
    refine enter_nest (binds := [("x", .int x tx), ("L", .int L tL), ("R", .int R tR)]) G T hf hcode (by show dp < _; omega) (by exact BindsTo.of_eq rfl) (by exact locs rfl) ?_ (by rfl) (by rfl) (by rfl) (by decide)
    k_whole
    intro L' h' F' N' l1
    (try dsimp only)
    (try k_fold)
    k_steps
    any_goals (exfalso; omega)
    unfold Halt
    refine con_useP (ih d' rfl (x := x % 2 ^ (((L + R) / 2 - L) * n).toNat) (L := L) (R := (L + R) / 2) (vs := vs) (ns := ns) hi h0 m1 (by omega) m3 hlen (Int.emod_nonneg _ (Int.ne_of_gt (pow_pos' _))) m7 m9) B (by assumption) X (by assumption) T rfl rfl rfl rfl (by show dp + 1 + _ < _; omega) (by show un + 3 + _ < _; omega)
      (fun _ h => h) (rest := []) (fun _ h => nomatch h) (fun _ h => nomatch h) (fun g' hg' => hP'.keeps fun b o e => hg' b o (Fr.keep (by assumption) _ _ e) ?_) ?_
    · intro z hz q
      rw [List.mem_singleton.mp hz] at q
      have := (G.led _ (.head _)).2
      rw [← q, e] at this; cases this
    rintro r small' h1 tk1 F1 N1 - ⟨rfl, vs1, ns1, rfl, hi1, fl1⟩
    simp only [List.append_nil] at N1
    (try dsimp only)
    k_steps
    unfold Halt
    have hl1' := fl1.1
    refine con_useP (ih d' rfl (x := x / 2 ^ (((L + R) / 2 - L) * n).toNat) (L := (L + R) / 2) (R := R) (vs := vs1) (ns := ns1) hi1 (by omega) m2 (by omega) m4 (by omega) (Int.ediv_nonneg hx0 (Int.le_of_lt (pow_pos' _))) m8 m10) B (by assumption) X (by assumption) T rfl rfl rfl rfl (by show dp + 1 + _ < _; omega) (by show un + 3 + _ < _; omega)
      (fun _ h => h) (rest := []) (fun _ h => nomatch h) (fun _ h => nomatch h) (fun g' hg' => hP'.keeps fun b o e => hg' b o (Fr.keep (by assumption) _ _ e) ?_) ?_
    · intro z hz q
      rw [List.mem_singleton.mp hz] at q
      have := (G.led _ (.head _)).2
      rw [← q, e] at this; cases this
    rintro r small' h1 tk1 F1 N1 - ⟨rfl, vs2, ns2, rfl, hi2, fl2⟩
    simp only [List.append_nil] at N1
    (try dsimp only)
    k_steps
    exact hr _ _ _ _ (Fr.keep (by assumption)) (led_of (by assumption)) ⟨rfl, _, _, rfl, hi2, filled_join hn (by omega) (by omega) fl1 fl2⟩
theorem inner1_con {cl : List (Str × Addr)} {l f : Addr} {n : Int} {tn : Tok} {n0 : Nat} (hn : 1 ≤ n) (dd : Nat) : Inner1C prog w p loose mean mg mb cl l f n tn n0 dd := by
  induction dd with
  | zero => exact inner1_step hn 0 fun d' h => by omega
  | succ dd ih => exact inner1_step hn (dd + 1) fun d' h => by obtain rfl : d' = dd := (by omega); exact ih

local macro_rules | `(tactic| walk_at "binaryOp FloorDiv int int") => `(tactic| ((with_reducible refine floordiv_e ?kb ?kc ?_); (case kb => omega); (case kc => exact Nat.le_trans (by bits_by_make) (by decide))))
local macro_rules | `(tactic| walk_at "binaryOp Mult ref int") => `(tactic| (k_here; k_dflt (refine' list_rep ?F ?N ?m ?lo ?hi ?_; (case F => k_asm); (case N => k_asm); (case m => k_mem); (case lo => omega); (case hi => omega); k_whole); intro D' h' F' N' l1; (try k_lt l1); (try k_sweep)))

local macro_rules | `(tactic| walk_at "call builtin:len") => `(tactic| (k_here; (with_reducible show wpAny _ _ (call (Value.builtin "len") [Value.ref _]) _ _ _); k_dflt (refine' len_rep ?N ?m ?lo ?hi ?_; (case N => k_asm); (case m => k_mem); (case lo => omega); (case hi => omega); k_whole)))

theorem code34 {g : Heap} (X : (hd.heap_39 w.params).In g) : CodeHd g 34 30 := codeHd_of_K X (by kernel_rfl)

theorem count_digits {a n : Int} (hn : 1 ≤ n) (hbn : n ≤ 10000) (ha : 0 ≤ a) (hba : Builtin.Int.intBits a ≤ 20000) :
    0 ≤ ((Builtin.Int.intBits a : Nat) + n - 1) / n ∧ ((Builtin.Int.intBits a : Nat) + n - 1) / n ≤ 30000 ∧ n * (((Builtin.Int.intBits a : Nat) + n - 1) / n) ≤ 30000 ∧ a < 2 ^ (n * (((Builtin.Int.intBits a : Nat) + n - 1) / n)).toNat ∧ (a ≠ 0 → 0 < ((Builtin.Int.intBits a : Nat) + n - 1) / n) := by
  have h1 := Int.ediv_mul_add_emod ((Builtin.Int.intBits a : Nat) + n - 1) n
  have h2 := Int.emod_nonneg ((Builtin.Int.intBits a : Nat) + n - 1) (show n ≠ 0 by omega)
  have h3 := Int.emod_lt_of_pos ((Builtin.Int.intBits a : Nat) + n - 1) (show 0 < n by omega)
  have h0 : 0 ≤ ((Builtin.Int.intBits a : Nat) + n - 1) / n := Int.ediv_nonneg (by omega) (by omega)
  generalize ((Builtin.Int.intBits a : Nat) + n - 1) / n = k at *
  have h4 : n * k = k * n := Int.mul_comm _ _
  have h5 : k * 1 ≤ k * n := Int.mul_le_mul_of_nonneg_left hn h0
  have h6 : a < 2 ^ (n * k).toNat := by
    have : a.natAbs < 2 ^ Builtin.Int.intBits a := PySem.intBits_le_iff.mp (Nat.le_refl _)
    have e := pow_cast (Builtin.Int.intBits a)
    exact Int.lt_of_lt_of_le (by omega) (pow_le_pow' (show Builtin.Int.intBits a ≤ (n * k).toNat by omega))
  refine ⟨h0, by omega, by omega, h6, fun hne => ?_⟩
  rcases (show k = 0 ∨ 0 < k by omega) with rfl | h
  · rw [Int.mul_zero] at h6; simp at h6; omega
  · exact h

/-- the digits of an int, the least first -/
def Digits (n a : Int) (ns : List Int) : Prop :=
  ns.length = (((Builtin.Int.intBits a : Nat) + n - 1) / n).toNat ∧ ∀ j : Nat, j < ns.length → ns.getD j 0 = a / 2 ^ (n * j).toNat % 2 ^ n.toNat

abbrev Tab1 := Tab 30 32 4 (Str.ofString "_int2digits.<locals>.inner")
abbrev TabF1 := TabF 30 32 4 (Str.ofString "_int2digits.<locals>.inner")
abbrev Ret1 (n a : Int) : Value → List (Addr × Obj) → Prop := fun r sm' => ∃ l vs ns sm1, r = .ref l ∧ sm' = (l, listOf vs.toArray 0) :: sm1 ∧ (∀ q ∈ sm1, q.1 ≠ l) ∧ TabF1 sm1 ∧ IntsAre vs ns ∧ Digits n a ns

theorem digits_of {n a k : Int} {ns ns' : List Int} (hk : k = ((Builtin.Int.intBits a : Nat) + n - 1) / n) (h0 : 0 ≤ k) (hl : ns.length = k.toNat) (h : Filled n a 0 k ns ns') : Digits n a ns' := by
  obtain ⟨h1, h2⟩ := h
  refine ⟨by rw [h1, hl, hk], fun j hj => ?_⟩
  rw [h2 j (by omega), if_pos (by omega), Int.sub_zero]
theorem digits_zero {n : Int} (hn : 1 ≤ n) : Digits n 0 [] := by
  refine ⟨?_, fun j hj => absurd hj (Nat.not_lt_zero _)⟩
  have : Builtin.Int.intBits 0 = 0 := rfl
  rw [this]
  have : (((0 : Nat) : Int) + n - 1) / n = 0 := Int.ediv_eq_zero_of_lt (by omega) (by omega)
  rw [this]; rfl

set_option maxRecDepth 100000 in
set_option maxHeartbeats 4000000 in
theorem int2digits_first {a n : Int} {ta tn : Tok} (hn : 1 ≤ n) (ha : 0 ≤ a) (hbn : n ≤ 10000) (hba : Builtin.Int.intBits a ≤ 20000) :
    Con prog w (hd.heap_39 w.params) p loose mean mg mb 20 120 35 [.int a ta, .int n tn] [(30, tabObj #[])] (Ret1 n a) := by
  obtain ⟨k0, k1, k2, k3, k4⟩ := count_digits hn hbn ha hba
  have bn : Builtin.Int.intBits n ≤ 64 := PySem.intBits_le_64 (by omega) (by omega)
  intro dp un gd base g outer s R hd hu G X T hr
  have B := G.below
  have C9 := code34 X
  refine enter_cells (binds := [("a", .int a ta), ("n", .int n tn)]) G X T (by k_is) (by k_is) (by show dp < _; omega) (by exact BindsTo.of_eq rfl) (by rfl) (by decide +kernel) ?_ (by rfl) (by rfl) (by rfl)
  k_whole
  intro L' h' tk' cells' F' N' Y' l1
  (try k_lt l1)
  k_cells Y'
  (try simp only [List.cons_append, List.nil_append] at N')
  (try dsimp only)
  (try k_fold)
  k_steps
  · unfold Halt
    rename News _ _ _ _ => N1
    rename Fr _ _ _ _ => F1
    rename a ≠ 0 => hne
    (try dsimp only at N1 F1)
    generalize hk : ((Builtin.Int.intBits a : Nat) + n - 1) / n = k at *
    rename_i o1 o2 o3 dd1 dd2 dd3 lst hA lA D hB lB hC oA dA f c oc vs t ct dc hD tkD e1 e2 lC lD hE oB dB
    have C := inner1_con (prog := prog) (w := w) (p := p) (loose := loose) (mean := mean) (mg := mg) (mb := mb) (cl := [("n", L' + 1), ("inner", L' + 1 + 1 + 1), ("a_digits", L' + 1 + 1)]) (l := D) (f := f) (n := n) (tn := tn) (n0 := 0) hn 15
      (x := a) (L := 0) (R := k) (tx := ta) (tL := tkD) (tR := tkD + 1 + 1) (vs := List.replicate k.toNat (.int 0 tk')) (ns := List.replicate k.toNat 0) (ints_rep _) (by omega) (k4 hne) (by rw [List.length_replicate]; omega) (by rw [show (2 : Int) ^ 15 = 32768 from rfl]; omega) (by rw [List.length_replicate]; omega) ha (by rw [Int.sub_zero]; exact k3) (by rw [Int.sub_zero]; omega)
    have m1 := (N1 _ (.head _)).1
    have m2 := (N1 _ (.tail _ (.head _))).1
    have m5 := (N1 _ (.tail _ (.tail _ (.tail _ (.tail _ (.head _)))))).1
    have m6 := (N1 _ (.tail _ (.tail _ (.tail _ (.tail _ (.tail _ (.head _))))))).1
    have m7 := (N1 _ (.tail _ (.tail _ (.tail _ (.tail _ (.tail _ (.tail _ (.head _)))))))).1
    have one : ∀ b : Nat, b ≠ D → ∀ z ∈ [(D, listOf (List.replicate k.toNat (.int 0 tk')).toArray 0)], b ≠ z.1 := fun b hb z hz => by rw [List.mem_singleton.mp hz]; exact hb
    refine con_useP C B F1 X N1 T rfl rfl rfl rfl (by show dp + 1 + _ < _; omega) (by show un + 3 + _ < _; omega)
      (List.forall_mem_cons.mpr ⟨.tail _ (.tail _ (.head _)), List.forall_mem_nil _⟩) (rest := [(L' + 1 + 1, oA), (c, oc), (30, tabObj #[rawInt 32, rawInt 4, .ref c])])
      (List.forall_mem_cons.mpr ⟨.tail _ (.tail _ (.tail _ (.tail _ (.tail _ (.head _))))), List.forall_mem_cons.mpr ⟨.tail _ (.head _), List.forall_mem_cons.mpr ⟨.tail _ (.tail _ (.tail _ (.tail _ (.tail _ (.tail _ (.tail _ (.head _))))))), List.forall_mem_nil _⟩⟩⟩)
      (List.forall_mem_cons.mpr ⟨one _ (by omega), List.forall_mem_cons.mpr ⟨one _ (by omega), List.forall_mem_cons.mpr ⟨one _ (by omega), List.forall_mem_nil _⟩⟩⟩) ?_ ?_
    · intro g' hg'
      exact ⟨_, _, _, _, _, _, _, _, _, _, _, _, rfl, hg' _ _ m1 (one _ (by omega)), ⟨c, oc, vs, t, rfl, hg' _ _ m2 (one _ (by omega)), e1, e2⟩, rfl, rfl, rfl,
        ⟨_, hg' _ _ m6 (one _ (by omega)), dA⟩, ⟨_, hg' _ _ m5 (one _ (by omega)), dB⟩, ⟨_, hg' _ _ m7 (one _ (by omega)), dd3⟩⟩
    rintro r small' h1 tk1 F2 N2 hne2 ⟨rfl, vs1, ns1, rfl, hi1, fl1⟩
    simp only [List.cons_append, List.nil_append] at N2
    (try dsimp only)
    clear N1 F1 m1 m2 m5 m6 m7
    k_steps
    exact hr _ _ _ _ (Fr.keep (by assumption)) (led_sub (sm := (D, listOf vs1.toArray 0) :: [(c, oc), (30, tabObj #[rawInt 32, rawInt 4, .ref c])]) N2 (List.forall_mem_cons.mpr ⟨.head _, fun _ h => .tail _ (.tail _ h)⟩))
      ⟨D, vs1, ns1, _, rfl, rfl, List.forall_mem_cons.mpr ⟨neN (by omega), List.forall_mem_cons.mpr ⟨neN (by omega), List.forall_mem_nil _⟩⟩, ⟨c, oc, vs, t, rfl, neN (by omega), e1, e2⟩, hi1, digits_of hk.symm k0 (List.length_replicate ..) fl1⟩
  · rename News _ _ _ _ => N1
    rename Fr _ _ _ _ => F1
    rename a = 0 => hz
    rename_i o1 o2 o3 dd1 dd2 dd3 lst hA lA D hB lB hC oA dA f c oc vs t ct dc hD tkD e1 e2 lC lD hE oB dB
    subst hz
    generalize hk : ((Builtin.Int.intBits 0 : Nat) + n - 1) / n = k at *
    have hk0 : k = 0 := by
      rw [← hk, show Builtin.Int.intBits 0 = 0 from rfl]
      exact Int.ediv_eq_zero_of_lt (by omega) (by omega)
    subst hk0
    exact hr _ _ _ _ (Fr.keep (by assumption)) (led_sub (sm := (D, listOf ([] : List Value).toArray 0) :: [(c, oc), (30, tabObj #[rawInt 32, rawInt 4, .ref c])]) N1 (List.forall_mem_cons.mpr ⟨.tail _ (.tail _ (.head _)), List.forall_mem_cons.mpr ⟨.tail _ (.head _), List.forall_mem_cons.mpr ⟨.tail _ (.tail _ (.tail _ (.tail _ (.tail _ (.tail _ (.tail _ (.head _))))))), List.forall_mem_nil _⟩⟩⟩))
      ⟨D, [], [], _, rfl, rfl, List.forall_mem_cons.mpr ⟨neN (by omega), List.forall_mem_cons.mpr ⟨neN (by omega), List.forall_mem_nil _⟩⟩, ⟨c, oc, vs, t, rfl, neN (by omega), e1, e2⟩, .nil, digits_zero hn⟩

set_option maxRecDepth 100000 in
set_option maxHeartbeats 4000000 in
theorem int2digits_next {a n : Int} {ta tn : Tok} {c : Addr} {oc : Obj} {vs : Array Value} {t : Tok} (hc30 : c ≠ 30) (e1 : oc.data = .fields vs) (e2 : vs[1]? = some (.str (Str.ofString "_int2digits.<locals>.inner") t)) (hn : 1 ≤ n) (ha : 0 ≤ a) (hbn : n ≤ 10000) (hba : Builtin.Int.intBits a ≤ 20000) :
    Con prog w (hd.heap_39 w.params) p loose mean mg mb 20 120 35 [.int a ta, .int n tn] [(c, oc), (30, tabObj #[rawInt 32, rawInt 4, .ref c])] (Ret1 n a) := by
  obtain ⟨k0, k1, k2, k3, k4⟩ := count_digits hn hbn ha hba
  have bn : Builtin.Int.intBits n ≤ 64 := PySem.intBits_le_64 (by omega) (by omega)
  intro dp un gd base g outer s R hd hu G X T hr
  have B := G.below
  have C9 := code34 X
  refine enter_cells (binds := [("a", .int a ta), ("n", .int n tn)]) G X T (by k_is) (by k_is) (by show dp < _; omega) (by exact BindsTo.of_eq rfl) (by rfl) (by decide +kernel) ?_ (by rfl) (by rfl) (by rfl)
  k_whole
  intro L' h' tk' cells' F' N' Y' l1
  (try k_lt l1)
  k_cells Y'
  (try simp only [List.cons_append, List.nil_append] at N')
  (try dsimp only)
  (try k_fold)
  k_steps
  · unfold Halt
    rename News _ _ _ _ => N1
    rename Fr _ _ _ _ => F1
    rename a ≠ 0 => hne
    (try dsimp only at N1 F1)
    generalize hk : ((Builtin.Int.intBits a : Nat) + n - 1) / n = k at *
    rename_i o1 o2 o3 dd1 dd2 dd3 lst hA lA D hB lB hC oA dA f ct dc hD tkD lC hE oB dB
    have C := inner1_con (prog := prog) (w := w) (p := p) (loose := loose) (mean := mean) (mg := mg) (mb := mb) (cl := [("n", L' + 1), ("inner", L' + 1 + 1 + 1), ("a_digits", L' + 1 + 1)]) (l := D) (f := f) (n := n) (tn := tn) (n0 := 0) hn 15
      (x := a) (L := 0) (R := k) (tx := ta) (tL := tkD) (tR := tkD + 1 + 1) (vs := List.replicate k.toNat (.int 0 tk')) (ns := List.replicate k.toNat 0) (ints_rep _) (by omega) (k4 hne) (by rw [List.length_replicate]; omega) (by rw [show (2 : Int) ^ 15 = 32768 from rfl]; omega) (by rw [List.length_replicate]; omega) ha (by rw [Int.sub_zero]; exact k3) (by rw [Int.sub_zero]; omega)
    have m1 := (N1 _ (.head _)).1
    have m2 := (N1 _ (.tail _ (.tail _ (.tail _ (.tail _ (.tail _ (.tail _ (.head _)))))))).1
    have m5 := (N1 _ (.tail _ (.tail _ (.tail _ (.head _))))).1
    have m6 := (N1 _ (.tail _ (.tail _ (.tail _ (.tail _ (.head _)))))).1
    have m7 := (N1 _ (.tail _ (.tail _ (.tail _ (.tail _ (.tail _ (.head _))))))).1
    have one : ∀ b : Nat, b ≠ D → ∀ z ∈ [(D, listOf (List.replicate k.toNat (.int 0 tk')).toArray 0)], b ≠ z.1 := fun b hb z hz => by rw [List.mem_singleton.mp hz]; exact hb
    refine con_useP C B F1 X N1 T rfl rfl rfl rfl (by show dp + 1 + _ < _; omega) (by show un + 3 + _ < _; omega)
      (List.forall_mem_cons.mpr ⟨.tail _ (.head _), List.forall_mem_nil _⟩) (rest := [(L' + 1 + 1, oA), (c, oc), (30, tabObj #[rawInt 32, rawInt 4, .ref c])])
      (List.forall_mem_cons.mpr ⟨.tail _ (.tail _ (.tail _ (.tail _ (.head _)))), List.forall_mem_cons.mpr ⟨.tail _ (.tail _ (.tail _ (.tail _ (.tail _ (.tail _ (.head _)))))), List.forall_mem_cons.mpr ⟨.tail _ (.tail _ (.tail _ (.tail _ (.tail _ (.tail _ (.tail _ (.head _))))))), List.forall_mem_nil _⟩⟩⟩)
      (List.forall_mem_cons.mpr ⟨one _ (by omega), List.forall_mem_cons.mpr ⟨one _ (by omega), List.forall_mem_cons.mpr ⟨one _ (by omega), List.forall_mem_nil _⟩⟩⟩) ?_ ?_
    · intro g' hg'
      exact ⟨_, _, _, _, _, _, _, _, _, _, _, _, rfl, hg' _ _ m1 (one _ (by omega)), ⟨c, oc, vs, t, rfl, hg' _ _ m2 (one _ (by omega)), e1, e2⟩, rfl, rfl, rfl,
        ⟨_, hg' _ _ m6 (one _ (by omega)), dA⟩, ⟨_, hg' _ _ m5 (one _ (by omega)), dB⟩, ⟨_, hg' _ _ m7 (one _ (by omega)), dd3⟩⟩
    rintro r small' h1 tk1 F2 N2 hne2 ⟨rfl, vs1, ns1, rfl, hi1, fl1⟩
    simp only [List.cons_append, List.nil_append] at N2
    (try dsimp only)
    clear N1 F1 m1 m2 m5 m6 m7
    k_steps
    exact hr _ _ _ _ (Fr.keep (by assumption)) (led_sub (sm := (D, listOf vs1.toArray 0) :: [(c, oc), (30, tabObj #[rawInt 32, rawInt 4, .ref c])]) N2 (List.forall_mem_cons.mpr ⟨.head _, fun _ h => .tail _ (.tail _ h)⟩))
      ⟨D, vs1, ns1, _, rfl, rfl, List.forall_mem_cons.mpr ⟨neN (by omega), List.forall_mem_cons.mpr ⟨neN (by omega), List.forall_mem_nil _⟩⟩, ⟨c, oc, vs, t, rfl, hc30, e1, e2⟩, hi1, digits_of hk.symm k0 (List.length_replicate ..) fl1⟩
  · rename News _ _ _ _ => N1
    rename Fr _ _ _ _ => F1
    rename a = 0 => hz
    rename_i o1 o2 o3 dd1 dd2 dd3 lst hA lA D hB lB hC oA dA f ct dc hD tkD lC hE oB dB
    subst hz
    generalize hk : ((Builtin.Int.intBits 0 : Nat) + n - 1) / n = k at *
    have hk0 : k = 0 := by
      rw [← hk, show Builtin.Int.intBits 0 = 0 from rfl]
      exact Int.ediv_eq_zero_of_lt (by omega) (by omega)
    subst hk0
    exact hr _ _ _ _ (Fr.keep (by assumption)) (led_sub (sm := (D, listOf ([] : List Value).toArray 0) :: [(c, oc), (30, tabObj #[rawInt 32, rawInt 4, .ref c])]) N1 (List.forall_mem_cons.mpr ⟨.tail _ (.head _), List.forall_mem_cons.mpr ⟨.tail _ (.tail _ (.tail _ (.tail _ (.tail _ (.tail _ (.head _)))))), List.forall_mem_cons.mpr ⟨.tail _ (.tail _ (.tail _ (.tail _ (.tail _ (.tail _ (.tail _ (.head _))))))), List.forall_mem_nil _⟩⟩⟩))
      ⟨D, [], [], _, rfl, rfl, List.forall_mem_cons.mpr ⟨neN (by omega), List.forall_mem_cons.mpr ⟨neN (by omega), List.forall_mem_nil _⟩⟩, ⟨c, oc, vs, t, rfl, hc30, e1, e2⟩, .nil, digits_zero hn⟩

theorem int2digits {a n : Int} {ta tn : Tok} {sm : List (Addr × Obj)} (hT : Tab1 sm) (hn : 1 ≤ n) (ha : 0 ≤ a) (hbn : n ≤ 10000) (hba : Builtin.Int.intBits a ≤ 20000) :
    Con prog w (hd.heap_39 w.params) p loose mean mg mb 20 120 35 [.int a ta, .int n tn] sm (Ret1 n a) := by
  rcases hT with rfl | ⟨c, oc, vs, t, rfl, h1, h2, h3⟩
  · exact int2digits_first hn ha hbn hba
  · exact int2digits_next h1 h2 h3 hn ha hbn hba
end
end Mine

namespace Mine
example : PySem.Challenge.rw_kn0018_01 = PySem.Challenge.rw_kn0018_01 ∧ hd.heap_39 = hd.heap_39 := by k_fill; exact ⟨rfl, rfl⟩

local macro_rules | `(tactic| bits_by_make) => `(tactic| with_reducible assumption)
local macro_rules | `(tactic| bits_by_make) => `(tactic| ((with_reducible apply bits_ediv); bits_by_make))
local macro_rules | `(tactic| walk_at "M nn") => `(tactic| first
  | assumption
  | omega
  | exact Int.ediv_nonneg (by walk_at "M nn") (by first | omega | exact Int.le_of_lt (pow_pos' _))
  | exact Int.emod_nonneg _ (Int.ne_of_gt (pow_pos' _)))
local macro_rules | `(tactic| walk_at "binaryOp RShift int int") => `(tactic| ((with_reducible refine rshift_e ?_ ?_); walk_at "M nn"))
local macro_rules | `(tactic| walk_at "binaryOp RShift int int") => `(tactic| (with_reducible refine rshift_1 ?_))
local macro_rules | `(tactic| walk_at "binaryOp LShift int int") => `(tactic| ((with_reducible refine lshift_int ?kbn ?kbs ?_); (case kbn => walk_at "M nn"); (case kbs => exact kbm_shl (by bits_by_make) (by omega) (by decide))))
local macro_rules | `(tactic| walk_at "eval Name") => `(tactic| (k_here; k_dflt (refine' name_free ?F ?c ?g ?_ ?a ?b; (case a => rfl); (case b => rfl); (case F => k_asm); (case c => first | assumption | rfl); (case g => assumption); k_whole)))
local macro_rules | `(tactic| walk_at "callWith ref") => `(tactic| (k_here; k_dflt (refine' callWith_F ?k1 ?_; (case k1 => exact fnAt_of (by k_asm) (by assumption)); k_whole)))
local macro_rules | `(tactic| walk_at "And") => `(tactic| ((with_reducible show FnAt _ _ ∧ _); refine ⟨fnAt_of (by k_asm) (by assumption), ?_⟩; try dsimp only [List.nil_append, List.cons_append]))
local macro_rules | `(tactic| walk_at "call ref") => `(tactic| (refine halt ?_))

section
variable {prog : Program} {w : World} {p : Program} {loose : List Str} {mean : ExcName → Option Value} {mg mb : Str → Option Value}

abbrev Inner2 (w : World) (cl : List (Str × Addr)) (l f : Addr) (vs : List Value) (n : Int) (tn : Tok) (g : Heap) : Prop :=
  ∃ (name qual : Str) (params : Arguments) (body : List Stmt) (scope : Scope) (doc pm ctv : Value) (c' ca ci cn : Addr), nestIn (hd.heap_39 w.params) 42 = some (name, params, body, scope) ∧
    g.get? f = some (fnMade name qual params body scope cl doc pm c' ctv) ∧ g.CodeRec (.ref c') qual ∧
    cl.lookup (Str.ofString "digits") = some ca ∧ cl.lookup (Str.ofString "inner") = some ci ∧ cl.lookup (Str.ofString "n") = some cn ∧
    g.IsCell ca (some (.ref l)) ∧ g.IsCell ci (some (.ref f)) ∧ g.IsCell cn (some (.int n tn)) ∧ g.IsList l vs.toArray
theorem isList_keeps {g g' : Heap} {l : Addr} {its : Array Value} (x : g.IsList l its) (k : ∀ b o, g.get? b = some o → g'.get? b = some o) : g'.IsList l its := let ⟨o, e, r⟩ := x; ⟨o, k _ _ e, r⟩
theorem Inner2.keeps {w : World} {cl : List (Str × Addr)} {l f : Addr} {vs : List Value} {n : Int} {tn : Tok} {g g' : Heap} (x : Inner2 w cl l f vs n tn g) (k : ∀ b o, g.get? b = some o → g'.get? b = some o) : Inner2 w cl l f vs n tn g' :=
  let ⟨a1, a2, a3, a4, a5, a6, a7, a8, a9, b1, b2, b3, e1, e2, e3, e4, e5, e6, e7, e8, e9, e10⟩ := x
  ⟨a1, a2, a3, a4, a5, a6, a7, a8, a9, b1, b2, b3, e1, k _ _ e2, e3.keeps k, e4, e5, e6, e7.keeps k, e8.keeps k, e9.keeps k, isList_keeps e10 k⟩

def Inner2C (prog : Program) (w : World) (p : Program) (loose : List Str) (mean : ExcName → Option Value) (mg mb : Str → Option Value) (cl : List (Str × Addr)) (l f : Addr) (vs : List Value) (ns : List Int) (n : Int) (tn : Tok) (dd : Nat) : Prop :=
  ∀ {L R : Int} {tL tR : Tok}, 0 ≤ L → L < R → R ≤ ns.length → R - L ≤ 2 ^ dd → n * (R - L) ≤ 100000 →
    ConP prog w (hd.heap_39 w.params) p loose mean mg mb (dd + 1) (4 * dd + 20) (Inner2 w cl l f vs n tn) f [.int L tL, .int R tR] []
      (fun r sm => (∃ tk, r = .int (dsum n.toNat ns L.toNat (R - L).toNat) tk) ∧ sm = [])

set_option maxRecDepth 100000 in
set_option maxHeartbeats 4000000 in
theorem inner2_step {cl : List (Str × Addr)} {l f : Addr} {vs : List Value} {ns : List Int} {n : Int} {tn : Tok} (hn : 1 ≤ n) (hi : IntsAre vs ns) (hlen : ns.length ≤ 100000) (hds : ∀ d ∈ ns, 0 ≤ d ∧ d < 2 ^ n.toNat) (dd : Nat)
    (ih : ∀ d', d' + 1 = dd → Inner2C prog w p loose mean mg mb cl l f vs ns n tn d') : Inner2C prog w p loose mean mg mb cl l f vs ns n tn dd := by
  intro L R tL tR h0 hLR hR hd2 hsz
  intro dp un gd base g outer s R' hd hu G X T hP hr
  have hP' := hP
  obtain ⟨name, qual, params, body, scope, doc, pm, ctv, c', ca, ci, cn, hN, hf, hcode, hl1, hl2, hl3, hc1, hc2, hc3, hls⟩ := hP
  cases hN
  have B := G.below
  by_cases hleaf : L + 1 = R
  · refine enter_nest (binds := [("L", .int L tL), ("R", .int R tR)]) G T hf hcode (by show dp < _; omega) (by exact BindsTo.of_eq rfl) (by exact locs rfl) ?_ (by rfl) (by rfl) (by rfl) (by decide)
    k_whole
    intro L' h' F' N' l1
    (try dsimp only)
    (try k_fold)
    k_steps
    any_goals (exfalso; omega)
    have e : dsum n.toNat ns L.toNat (R - L).toNat = ns.getD L.toNat 0 := by rw [show (R - L).toNat = 1 by omega]; simp [dsum]
    rw [e] at hr
    exact hr _ [] _ _ (Fr.keep (by assumption)) (fun _ h => nomatch h) ⟨⟨_, rfl⟩, rfl⟩
  · obtain ⟨d', rfl⟩ : ∃ d', dd = d' + 1 := by
      cases dd with
      | zero => exact absurd hd2 (by simp; omega)
      | succ d' => exact ⟨d', rfl⟩
    obtain ⟨m1, m2, m3, m4, m5, m6, -, -, m9, m10⟩ := half_sizes (x := 0) hn h0 (by omega) hd2 (Int.le_refl 0) (pow_pos' _) hsz
    have bn : Builtin.Int.intBits n ≤ 100000 := by
      have := Int.mul_le_mul_of_nonneg_left (show 1 ≤ R - L by omega) (show 0 ≤ n by omega)
      exact Nat.le_trans (PySem.intBits_le_64 (by omega) (by omega)) (by decide)
    have b1 := dsum_bits (L := (L + R) / 2) (R := R) hn hds (R - (L + R) / 2).toNat (by omega) m10
    refine enter_nest (binds := [("L", .int L tL), ("R", .int R tR)]) G T hf hcode (by show dp < _; omega) (by exact BindsTo.of_eq rfl) (by exact locs rfl) ?_ (by rfl) (by rfl) (by rfl) (by decide)
    k_whole
    intro L' h' F' N' l1
    (try dsimp only)
    (try k_fold)
    k_steps
    any_goals (exfalso; omega)
    unfold Halt
    refine con_useP (ih d' rfl (L := (L + R) / 2) (R := R) (by omega) m2 (by omega) m4 m10) B (by assumption) X (by assumption) T rfl rfl rfl rfl (by show dp + 1 + _ < _; omega) (by show un + 3 + _ < _; omega)
      (fun _ h => h) (rest := []) (fun _ h => nomatch h) (fun _ h => nomatch h) (fun g' hg' => hP'.keeps fun b o e => hg' b o (Fr.keep (by assumption) _ _ e) (fun _ h => nomatch h)) ?_
    rintro r small' h1 tk1 F1 N1 - ⟨⟨tk2, rfl⟩, rfl⟩
    simp only [List.append_nil] at N1
    (try dsimp only)
    k_steps
    unfold Halt
    refine con_useP (ih d' rfl (L := L) (R := (L + R) / 2) (by omega) m1 (by omega) m3 m9) B (by assumption) X (by assumption) T rfl rfl rfl rfl (by show dp + 1 + _ < _; omega) (by show un + 3 + _ < _; omega)
      (fun _ h => h) (rest := []) (fun _ h => nomatch h) (fun _ h => nomatch h) (fun g' hg' => hP'.keeps fun b o e => hg' b o (Fr.keep (by assumption) _ _ e) (fun _ h => nomatch h)) ?_
    rintro r small' h1 tk1 F1 N1 - ⟨⟨tk2, rfl⟩, rfl⟩
    simp only [List.append_nil] at N1
    (try dsimp only)
    k_steps
    rw [← dsum_join (M := (L + R) / 2) hn h0 (by omega) (by omega)] at hr
    exact hr _ [] _ _ (Fr.keep (by assumption)) (fun _ h => nomatch h) ⟨⟨_, rfl⟩, rfl⟩
theorem inner2_con {cl : List (Str × Addr)} {l f : Addr} {vs : List Value} {ns : List Int} {n : Int} {tn : Tok} (hn : 1 ≤ n) (hi : IntsAre vs ns) (hlen : ns.length ≤ 100000) (hds : ∀ d ∈ ns, 0 ≤ d ∧ d < 2 ^ n.toNat) (dd : Nat) : Inner2C prog w p loose mean mg mb cl l f vs ns n tn dd := by
  induction dd with
  | zero => exact inner2_step hn hi hlen hds 0 fun d' h => by omega
  | succ dd ih => exact inner2_step hn hi hlen hds (dd + 1) fun d' h => by obtain rfl : d' = dd := (by omega); exact ih

theorem code41 {g : Heap} (X : (hd.heap_39 w.params).In g) : CodeHd g 41 37 := codeHd_of_K X (by kernel_rfl)
abbrev Tab2 := Tab 37 47 4 (Str.ofString "_digits2int.<locals>.inner")
abbrev TabF2 := TabF 37 47 4 (Str.ofString "_digits2int.<locals>.inner")
abbrev Ret2 (x : Int) : Value → List (Addr × Obj) → Prop := fun r sm' => (∃ tk, r = .int x tk) ∧ TabF2 sm'

set_option maxRecDepth 100000 in
set_option maxHeartbeats 4000000 in
theorem digits2int_first {l : Addr} {vs : List Value} {ns : List Int} {n : Int} {tn : Tok} (hn : 1 ≤ n) (hi : IntsAre vs ns) (hlen : ns.length ≤ 32768) (hsz : n * ns.length ≤ 100000) (hds : ∀ d ∈ ns, 0 ≤ d ∧ d < 2 ^ n.toNat) :
    ConP prog w (hd.heap_39 w.params) p loose mean mg mb 20 120 (fun g => g.IsList l vs.toArray) 42 [.ref l, .int n tn] [(37, tabObj #[])] (Ret2 (dsum n.toNat ns 0 ns.length)) := by
  intro dp un gd base g outer s R hd hu G X T hls hr
  have B := G.below
  have C9 := code41 X
  refine enter_cells (binds := [("digits", .ref l), ("n", .int n tn)]) G X T (by k_is) (by k_is) (by show dp < _; omega) (by exact BindsTo.of_eq rfl) (by rfl) (by decide +kernel) ?_ (by rfl) (by rfl) (by rfl)
  k_whole
  intro L' h' tk' cells' F' N' Y' l1
  (try k_lt l1)
  k_cells Y'
  (try simp only [List.cons_append, List.nil_append] at N')
  (try dsimp only)
  (try k_fold)
  k_steps
  · unfold Halt
    rename News _ _ _ _ => N1
    rename Fr _ _ _ _ => F1
    rename 0 < List.length ns => hne
    (try dsimp only at N1 F1)
    rename_i o1 o2 o3 dd1 dd2 dd3 f c oc cs t ct dc hD tkD e1 e2 lC lD hE oB dB
    have C := inner2_con (prog := prog) (w := w) (p := p) (loose := loose) (mean := mean) (mg := mg) (mb := mb) (cl := [("n", L' + 1 + 1), ("inner", L' + 1 + 1 + 1), ("digits", L' + 1)]) (l := l) (f := f) (vs := vs) (ns := ns) (n := n) (tn := tn) hn hi (by omega) hds 15
      (L := 0) (R := ns.length) (tL := tkD + 1 + 1) (tR := tkD + 1 + 1 + 1 + 1) (by omega) (by omega) (by omega) (by rw [show (2 : Int) ^ 15 = 32768 from rfl]; omega) (by rw [Int.sub_zero]; omega)
    have m1 := (N1 _ (.head _)).1
    have m2 := (N1 _ (.tail _ (.head _))).1
    have m3 := (N1 _ (.tail _ (.tail _ (.head _)))).1
    have m4 := (N1 _ (.tail _ (.tail _ (.tail _ (.head _))))).1
    have m5 := (N1 _ (.tail _ (.tail _ (.tail _ (.tail _ (.head _)))))).1
    refine con_useP C B F1 X N1 T rfl rfl rfl rfl (by show dp + 1 + _ < _; omega) (by show un + 3 + _ < _; omega)
      (fun _ h => nomatch h) (rest := [(c, oc), (37, tabObj #[rawInt 47, rawInt 4, .ref c])])
      (List.forall_mem_cons.mpr ⟨.tail _ (.head _), List.forall_mem_cons.mpr ⟨.tail _ (.tail _ (.tail _ (.tail _ (.tail _ (.head _))))), List.forall_mem_nil _⟩⟩)
      (fun _ _ _ h => nomatch h) ?_ ?_
    · intro g' hg'
      have nn : ∀ b : Addr, ∀ z ∈ ([] : List (Addr × Obj)), b ≠ z.1 := fun _ _ h => nomatch h
      exact ⟨_, _, _, _, _, _, _, _, _, _, _, _, rfl, hg' _ _ m1 (nn _), ⟨c, oc, cs, t, rfl, hg' _ _ m2 (nn _), e1, e2⟩, rfl, rfl, rfl,
        ⟨_, hg' _ _ m5 (nn _), dd3⟩, ⟨_, hg' _ _ m3 (nn _), dB⟩, ⟨_, hg' _ _ m4 (nn _), dd2⟩, isList_keeps hls fun b o e => hg' b o (F1.keep _ _ e) (nn _)⟩
    rintro r small' h1 tk1 F2 N2 hne2 ⟨⟨tk2, rfl⟩, rfl⟩
    simp only [List.cons_append, List.nil_append] at N2
    rw [Int.sub_zero] at *
    exact hr _ _ _ _ (Fr.keep F2) (led_of N2) ⟨⟨_, rfl⟩, ⟨c, oc, cs, t, rfl, neN (by omega), e1, e2⟩⟩
  · rename News _ _ _ _ => N1
    rename Fr _ _ _ _ => F1
    rename ¬ 0 < List.length ns => hne
    rename_i o1 o2 o3 dd1 dd2 dd3 f c oc cs t ct dc hD tkD e1 e2 lC lD hE oB dB
    have hz : dsum n.toNat ns 0 ns.length = 0 := by rw [show ns.length = 0 by omega]; rfl
    rw [hz] at hr
    exact hr _ _ _ _ (Fr.keep F1) (led_sub (sm := [(c, oc), (37, tabObj #[rawInt 47, rawInt 4, .ref c])]) N1 (List.forall_mem_cons.mpr ⟨.tail _ (.head _), List.forall_mem_cons.mpr ⟨.tail _ (.tail _ (.tail _ (.tail _ (.tail _ (.head _))))), List.forall_mem_nil _⟩⟩)) ⟨⟨_, rfl⟩, ⟨c, oc, cs, t, rfl, neN (by omega), e1, e2⟩⟩

set_option maxRecDepth 100000 in
set_option maxHeartbeats 4000000 in
theorem digits2int_next {l : Addr} {vs : List Value} {ns : List Int} {n : Int} {tn : Tok} {c : Addr} {oc : Obj} {cs : Array Value} {t : Tok} (hc37 : c ≠ 37) (e1 : oc.data = .fields cs) (e2 : cs[1]? = some (.str (Str.ofString "_digits2int.<locals>.inner") t)) (hn : 1 ≤ n) (hi : IntsAre vs ns) (hlen : ns.length ≤ 32768) (hsz : n * ns.length ≤ 100000) (hds : ∀ d ∈ ns, 0 ≤ d ∧ d < 2 ^ n.toNat) :
    ConP prog w (hd.heap_39 w.params) p loose mean mg mb 20 120 (fun g => g.IsList l vs.toArray) 42 [.ref l, .int n tn] [(c, oc), (37, tabObj #[rawInt 47, rawInt 4, .ref c])] (Ret2 (dsum n.toNat ns 0 ns.length)) := by
  intro dp un gd base g outer s R hd hu G X T hls hr
  have B := G.below
  have C9 := code41 X
  refine enter_cells (binds := [("digits", .ref l), ("n", .int n tn)]) G X T (by k_is) (by k_is) (by show dp < _; omega) (by exact BindsTo.of_eq rfl) (by rfl) (by decide +kernel) ?_ (by rfl) (by rfl) (by rfl)
  k_whole
  intro L' h' tk' cells' F' N' Y' l1
  (try k_lt l1)
  k_cells Y'
  (try simp only [List.cons_append, List.nil_append] at N')
  (try dsimp only)
  (try k_fold)
  k_steps
  · unfold Halt
    rename News _ _ _ _ => N1
    rename Fr _ _ _ _ => F1
    rename 0 < List.length ns => hne
    (try dsimp only at N1 F1)
    rename_i o1 o2 o3 dd1 dd2 dd3 f ct dc hD tkD lC hE oB dB
    have C := inner2_con (prog := prog) (w := w) (p := p) (loose := loose) (mean := mean) (mg := mg) (mb := mb) (cl := [("n", L' + 1 + 1), ("inner", L' + 1 + 1 + 1), ("digits", L' + 1)]) (l := l) (f := f) (vs := vs) (ns := ns) (n := n) (tn := tn) hn hi (by omega) hds 15
      (L := 0) (R := ns.length) (tL := tkD + 1 + 1) (tR := tkD + 1 + 1 + 1 + 1) (by omega) (by omega) (by omega) (by rw [show (2 : Int) ^ 15 = 32768 from rfl]; omega) (by rw [Int.sub_zero]; omega)
    have m1 := (N1 _ (.head _)).1
    have m2 := (N1 _ (.tail _ (.tail _ (.tail _ (.tail _ (.head _)))))).1
    have m3 := (N1 _ (.tail _ (.head _))).1
    have m4 := (N1 _ (.tail _ (.tail _ (.head _)))).1
    have m5 := (N1 _ (.tail _ (.tail _ (.tail _ (.head _))))).1
    refine con_useP C B F1 X N1 T rfl rfl rfl rfl (by show dp + 1 + _ < _; omega) (by show un + 3 + _ < _; omega)
      (fun _ h => nomatch h) (rest := [(c, oc), (37, tabObj #[rawInt 47, rawInt 4, .ref c])])
      (fun _ h => .tail _ (.tail _ (.tail _ (.tail _ h))))
      (fun _ _ _ h => nomatch h) ?_ ?_
    · intro g' hg'
      have nn : ∀ b : Addr, ∀ z ∈ ([] : List (Addr × Obj)), b ≠ z.1 := fun _ _ h => nomatch h
      exact ⟨_, _, _, _, _, _, _, _, _, _, _, _, rfl, hg' _ _ m1 (nn _), ⟨c, oc, cs, t, rfl, hg' _ _ m2 (nn _), e1, e2⟩, rfl, rfl, rfl,
        ⟨_, hg' _ _ m5 (nn _), dd3⟩, ⟨_, hg' _ _ m3 (nn _), dB⟩, ⟨_, hg' _ _ m4 (nn _), dd2⟩, isList_keeps hls fun b o e => hg' b o (F1.keep _ _ e) (nn _)⟩
    rintro r small' h1 tk1 F2 N2 hne2 ⟨⟨tk2, rfl⟩, rfl⟩
    simp only [List.cons_append, List.nil_append] at N2
    rw [Int.sub_zero] at *
    exact hr _ _ _ _ (Fr.keep F2) (led_of N2) ⟨⟨_, rfl⟩, ⟨c, oc, cs, t, rfl, hc37, e1, e2⟩⟩
  · rename News _ _ _ _ => N1
    rename Fr _ _ _ _ => F1
    rename ¬ 0 < List.length ns => hne
    have hz : dsum n.toNat ns 0 ns.length = 0 := by rw [show ns.length = 0 by omega]; rfl
    rw [hz] at hr
    exact hr _ _ _ _ (Fr.keep F1) (led_sub (sm := [(c, oc), (37, tabObj #[rawInt 47, rawInt 4, .ref c])]) N1 (fun _ h => .tail _ (.tail _ (.tail _ (.tail _ h))))) ⟨⟨_, rfl⟩, ⟨c, oc, cs, t, rfl, hc37, e1, e2⟩⟩

theorem digits2int {l : Addr} {vs : List Value} {ns : List Int} {n : Int} {tn : Tok} {sm : List (Addr × Obj)} (hT : Tab2 sm) (hn : 1 ≤ n) (hi : IntsAre vs ns) (hlen : ns.length ≤ 32768) (hsz : n * ns.length ≤ 100000) (hds : ∀ d ∈ ns, 0 ≤ d ∧ d < 2 ^ n.toNat) :
    ConP prog w (hd.heap_39 w.params) p loose mean mg mb 20 120 (fun g => g.IsList l vs.toArray) 42 [.ref l, .int n tn] sm (Ret2 (dsum n.toNat ns 0 ns.length)) := by
  rcases hT with rfl | ⟨c, oc, cs, t, rfl, h1, h2, h3⟩
  · exact digits2int_first hn hi hlen hsz hds
  · exact digits2int_next h1 h2 h3 hn hi hlen hsz hds
end
end Mine

namespace Mine
example : PySem.Challenge.rw_kn0018_01 = PySem.Challenge.rw_kn0018_01 ∧ hd.heap_39 = hd.heap_39 := by k_fill; exact ⟨rfl, rfl⟩

local macro_rules | `(tactic| bits_by_make) => `(tactic| with_reducible assumption)
local macro_rules | `(tactic| walk_at "M nn") => `(tactic| first | assumption | omega)
local macro_rules | `(tactic| walk_at "binaryOp LShift int int") => `(tactic| ((with_reducible refine lshift_int ?kbn ?kbs ?_); (case kbn => walk_at "M nn"); (case kbs => exact kbm_shl (by bits_by_make) (by omega) (by decide))))
local macro_rules | `(tactic| walk_at "call ref") => `(tactic| (refine halt ?_))
local macro_rules | `(tactic| walk_at "pyIter ref") => `(tactic| (refine halt ?_))
local macro_rules | `(tactic| walk_at "call builtin:list.append") => `(tactic| (refine halt ?_))
local macro_rules | `(tactic| walk_at "call builtin:list.reverse") => `(tactic| (refine halt ?_))

/-- both tables -/
abbrev Tabs (sm : List (Addr × Obj)) : Prop := ∃ sm1 sm2, sm = sm1 ++ sm2 ∧ Tab1 sm1 ∧ Tab2 sm2 ∧ ∀ q ∈ sm1, ∀ z ∈ sm2, q.1 ≠ z.1
abbrev TabsF (sm : List (Addr × Obj)) : Prop := ∃ sm1 sm2, sm = sm1 ++ sm2 ∧ TabF1 sm1 ∧ TabF2 sm2 ∧ ∀ q ∈ sm1, ∀ z ∈ sm2, q.1 ≠ z.1
theorem TabsF.tabs {sm : List (Addr × Obj)} (h : TabsF sm) : Tabs sm := let ⟨a, b, c, d, e, f⟩ := h; ⟨a, b, c, .inr d, .inr e, f⟩
abbrev RetT (q r : Int) : Value → List (Addr × Obj) → Prop := fun v sm => ∃ t k1 k2 sm', v = .ref t ∧ sm = (t, tupO [.int q k1, .int r k2]) :: sm' ∧ TabsF sm' ∧ ∀ z ∈ sm', t ≠ z.1
section
variable {prog : Program} {w : World} {p : Program} {loose : List Str} {mean : ExcName → Option Value} {mg mb : Str → Option Value}

set_option maxRecDepth 100000 in
set_option maxHeartbeats 4000000 in
theorem divmod_pos {a b : Int} {ta tb : Tok} {sm : List (Addr × Obj)} (hT : Tabs sm) (ha : 0 ≤ a) (hba : Builtin.Int.intBits a ≤ 16000) (hb : 0 < b) (hbb : Builtin.Int.intBits b ≤ 8000) :
    Con prog w (hd.heap_39 w.params) p loose mean mg mb 30 200 49 [.int a ta, .int b tb] sm (RetT (a.fdiv b) (a.fmod b)) := by
  obtain ⟨sm1, sm2, rfl, hT1, hT2, hap⟩ := hT
  obtain ⟨n1, n2, n3⟩ := bits_exact hb
  intro dp un gd base g outer s R hd hu G X T hr
  have B := G.below
  refine enter_def (binds := [("a", .int a ta), ("b", .int b tb)]) G X T (by k_is) (by k_is) (by show dp < _; omega) (by exact BindsTo.of_eq rfl) (by exact locs rfl) ?_ (by rfl) (by rfl) (by rfl) (by decide)
  k_whole
  intro L' h' F' N' l1
  (try dsimp only)
  (try k_fold)
  k_steps
  unfold Halt
  refine con_use (int2digits hT1 (a := a) (n := (Builtin.Int.intBits b : Nat)) (by omega) ha (by omega) (by omega)) B (by assumption) X (by assumption) T rfl rfl rfl rfl (by show dp + 1 + _ < _; omega) (by show un + 3 + _ < _; omega)
    (fun _ h => List.mem_append_left _ h) (rest := sm2) (fun _ h => List.mem_append_right _ h) (fun q hq z hz => (hap z hz q hq).symm) ?_
  rintro r small' h1 tk1 F1 N1 hne1 ⟨l, vs, ns, sm1', rfl, rfl, hl1, hT1', hi, hdig⟩
  rw [List.cons_append] at N1
  (try dsimp only)
  k_steps
  unfold Halt
  rename Fr _ _ _ _ => F2
  rename News _ _ _ _ => N2
  (try dsimp only at N2 F2)
  rename_i qd hE lA hF I hG lB
  have hlen : vs.length = ns.length := hi.length
  have hIq : qd ≠ I := neN (by omega)
  have hIl : l ≠ I := neN (by omega)
  have hql : qd ≠ l := neN (by omega)
  have hT : ∀ p ∈ sm1' ++ sm2, p.1 ≠ I ∧ p.1 ≠ l ∧ p.1 ≠ qd := fun p hp => ⟨Nat.ne_of_lt (allLt_to lB.2.2 p hp), by
    rcases List.mem_append.mp hp with hp | hp
    · exact hl1 p hp
    · exact (hne1 _ (.head _) p hp).symm, Nat.ne_of_lt (allLt_to lA.2 p hp)⟩
  obtain ⟨hd1, hd2⟩ := hdig
  obtain ⟨k0, k1, k2, k3, k4⟩ := count_digits (a := a) (n := (Builtin.Int.intBits b : Nat)) (by omega) (by omega) ha (by omega)
  generalize hk : ((Builtin.Int.intBits a : Nat) + ((Builtin.Int.intBits b : Nat) : Int) - 1) / ((Builtin.Int.intBits b : Nat) : Int) = k at *
  have ek : ((Builtin.Int.intBits b : Nat) * k).toNat = Builtin.Int.intBits b * ns.length := by
    have : (((Builtin.Int.intBits b * ns.length : Nat)) : Int) = (Builtin.Int.intBits b : Nat) * k := by rw [Int.natCast_mul, hd1, Int.toNat_of_nonneg k0]
    omega
  rw [ek] at k3
  have hd3 : ∀ j : Nat, j < ns.length → ns.getD j 0 = a / 2 ^ (Builtin.Int.intBits b * j) % 2 ^ Builtin.Int.intBits b := fun j hj => by
    have := hd2 j hj
    rw [this, Int.toNat_natCast]
    congr 2
  refine iter_rev (vs := vs) (n0 := 0) (J := fun i m nw => ∃ (qs : List Int) (qvs : List Value) (nq : Nat) (r : Int), nw = (qd, listOf qvs.toArray nq) :: (sm1' ++ sm2) ∧ IntsAre qvs qs ∧ qs.length = i ∧ (∀ d ∈ qs, 0 ≤ d ∧ d < 2 ^ Builtin.Int.intBits b) ∧
      qval (Builtin.Int.intBits b) qs * b + r = a / 2 ^ (Builtin.Int.intBits b * (ns.length - i)) ∧ 0 ≤ r ∧ r < b ∧
      m (Str.ofString "b") = some (.int b tb) ∧ (∃ tn, m (Str.ofString "n") = some (.int (Builtin.Int.intBits b : Nat) tn)) ∧ m (Str.ofString "q_digits") = some (.ref qd) ∧ ∃ tr, m (Str.ofString "r") = some (.int r tr))
    (news := (qd, listOf ([] : List Value).toArray 0) :: (sm1' ++ sm2)) rfl F2 N2 ?_ hIl ?_ ?_ ?_ ?_
  · exact List.forall_mem_cons.mpr ⟨.head _, List.forall_mem_cons.mpr ⟨.tail _ (.tail _ (.head _)), List.forall_mem_cons.mpr ⟨.tail _ (.head _), fun p hp => .tail _ (.tail _ (.tail _ hp))⟩⟩⟩
  · exact List.forall_mem_cons.mpr ⟨⟨hIq, hql⟩, fun p hp => ⟨(hT p hp).1, (hT p hp).2.1⟩⟩
  · refine ⟨[], [], 0, 0, rfl, .nil, rfl, (fun _ h => nomatch h), ?_, Int.le_refl 0, hb, rfl, ⟨_, rfl⟩, rfl, ⟨_, rfl⟩⟩
    rw [qval_nil, Nat.sub_zero, Int.ediv_eq_zero_of_lt ha k3]; omega
  · clear F2 N2
    rintro i v m₁ news₁ it h tk hi1 hv ⟨qs, qvs, nq, r, rfl, hqi, hqn, hqd, hQ, hr0, hr1, hmb, ⟨tn, hmn⟩, hmq, ⟨tr, hmr⟩⟩ hoff F3 N3
    obtain ⟨tv, rfl⟩ := ints_rev_get hi hi1 hv
    have hj : ns.length - 1 - i < ns.length := by omega
    rw [hd3 _ hj] at F3
    obtain ⟨s1, s2, s3, s4, s5, s6, s7⟩ := school_turn (n := Builtin.Int.intBits b) (a := a) (qs := qs) (i := i) (K := ns.length) hb (by omega) hQ hr0 hr1
    generalize hdd : a / 2 ^ (Builtin.Int.intBits b * (ns.length - 1 - i)) % 2 ^ Builtin.Int.intBits b = d at *
    rw [map_eq (m := m₁) (ps := [(Str.ofString "b", .int b tb), (Str.ofString "n", .int (Builtin.Int.intBits b : Nat) tn), (Str.ofString "q_digits", .ref qd), (Str.ofString "r", .int r tr)]) (List.forall_mem_cons.mpr ⟨hmb, List.forall_mem_cons.mpr ⟨hmn, List.forall_mem_cons.mpr ⟨hmq, List.forall_mem_cons.mpr ⟨hmr, List.forall_mem_nil _⟩⟩⟩⟩)] at F3
    have br : Builtin.Int.intBits r ≤ 9000 := Nat.le_trans (bits_lt hr0 (Int.lt_trans hr1 n3)) (by omega)
    (try k_fold)
    k_steps
    unfold Halt
    have C := div2 (prog := prog) (w := w) (p := p) (loose := loose) (mean := mean) (mg := mg) (mb := mb) (a := r * 2 ^ Builtin.Int.intBits b + d) (b := b) (n := (Builtin.Int.intBits b : Nat)) (ta := tk + 1) (tb := tb) (tn := tn) (by omega) (by omega) n2 n3 s1 s2
    refine con_use (small := []) C B F3 X N3 T rfl rfl rfl rfl (by show dp + 1 + 6 < _; omega) (by show un + 3 + 60 < _; omega) (fun _ h => nomatch h) (rest := (qd, listOf qvs.toArray nq) :: (sm1' ++ sm2) ++ [(I, it), (l, listOf vs.toArray 0)]) (fun _ h => h) (fun _ _ _ h => nomatch h) ?_
    clear F3 N3
    rintro rv small' h2 tk2 F4 N4 hne4 ⟨t, kq, kr, rfl, rfl⟩
    rw [List.singleton_append] at N4
    (try dsimp only)
    k_steps
    unfold Halt
    rename Fr _ _ _ _ => F5
    rename News _ _ _ _ => N5
    have N6 : News g L' _ ((qd, listOf qvs.toArray nq) :: ((sm1' ++ sm2) ++ [(I, it), (l, listOf vs.toArray 0)])) := fun p hp => N5 p (.tail _ hp)
    have hlq : qvs.length = i := hqi.length.trans hqn
    refine append_K F5 N6 (Upd.head fun p hp => ?_) ?_ (by rw [List.size_toArray, sizeLine_eq, hlq]; omega)
    · rcases List.mem_append.mp hp with hp | hp
      · exact (hT p hp).2.2
      · rcases List.mem_cons.mp hp with rfl | hp
        · exact hIq.symm
        · rw [List.mem_singleton.mp hp]; exact hql.symm
    clear F5 N5 N6
    intro h6 F7 N7
    rw [List.push_toArray] at N7
    (try dsimp only)
    k_steps
    refine RvPost.next F7 N7 (fun p hp => hp) (List.forall_mem_cons.mpr ⟨⟨hIq, hql⟩, fun p hp => ⟨(hT p hp).1, (hT p hp).2.1⟩⟩) ⟨qs ++ [(r * 2 ^ Builtin.Int.intBits b + d).fdiv b], _, nq + 1, (r * 2 ^ Builtin.Int.intBits b + d).fmod b, rfl, ints_app hqi (.cons _ _ .nil), by rw [List.length_append, hqn]; rfl, ?_, s3, s4, s5, rfl, ⟨_, rfl⟩, rfl, ⟨_, rfl⟩⟩
    intro e he
    rcases List.mem_append.mp he with he | he
    · exact hqd e he
    · rw [List.mem_singleton.mp he]; exact ⟨s6, s7⟩
  · clear F2 N2
    rintro m₁ news₁ h tk ⟨qs, qvs, nq, r, rfl, hqi, hqn, hqd, hQ, hr0, hr1, hmb, ⟨tn, hmn⟩, hmq, ⟨tr, hmr⟩⟩ F3 N3
    rw [hlen, Nat.sub_self, Nat.mul_zero, Int.pow_zero, Int.ediv_one] at hQ
    obtain ⟨q1, q2⟩ := fdm_of hb hQ hr0 hr1
    rw [map_eq (m := m₁) (ps := [(Str.ofString "b", .int b tb), (Str.ofString "n", .int (Builtin.Int.intBits b : Nat) tn), (Str.ofString "q_digits", .ref qd), (Str.ofString "r", .int r tr)]) (List.forall_mem_cons.mpr ⟨hmb, List.forall_mem_cons.mpr ⟨hmn, List.forall_mem_cons.mpr ⟨hmq, List.forall_mem_cons.mpr ⟨hmr, List.forall_mem_nil _⟩⟩⟩⟩)] at F3
    (try dsimp only)
    k_steps
    unfold Halt
    have hlq : qvs.length = ns.length := (hqi.length.trans hqn).trans hlen
    have kn : ns.length ≤ 30000 := by omega
    refine kl_reverse (its := qvs.toArray) (l := qvs.reverse) F3 N3 (by simp) (Upd.head fun p hp => (hT p hp).2.2) (by rw [sizeLine_eq]; simp; omega) ?_
    clear F3 N3
    intro h4 F4 N4
    (try dsimp only)
    k_steps
    unfold Halt
    have kz : ((Builtin.Int.intBits b : Nat) : Int) * ((qs.reverse.length : Nat) : Int) ≤ 100000 := by
      rw [List.length_reverse, hqn, hlen, hd1, Int.toNat_of_nonneg k0]; omega
    have C := digits2int (prog := prog) (w := w) (p := p) (loose := loose) (mean := mean) (mg := mg) (mb := mb) (l := qd) (vs := qvs.reverse) (ns := qs.reverse) (n := (Builtin.Int.intBits b : Nat)) (tn := tn) hT2 (by omega) (ints_rev hqi) (by rw [List.length_reverse, hqn, hlen]; omega) kz (fun d hd => hqd d (List.mem_reverse.mp hd))
    refine con_useP C B F4 X N4 T rfl rfl rfl rfl (by show dp + 1 + 20 < _; omega) (by show un + 3 + 120 < _; omega) (fun p hp => .tail _ (List.mem_append_right _ hp)) (rest := (qd, listOf qvs.reverse.toArray nq) :: sm1') (List.forall_mem_cons.mpr ⟨.head _, fun p hp => .tail _ (List.mem_append_left _ hp)⟩)
      (List.forall_mem_cons.mpr ⟨fun z hz => (hT z (List.mem_append_right _ hz)).2.2.symm, fun q hq z hz => hne1 q (.tail _ hq) z hz⟩) (fun g' hg' => ⟨_, hg' _ _ (N4 _ (.head _)).1 (fun z hz => (hT z (List.mem_append_right _ hz)).2.2.symm), rfl, nq, rfl⟩) ?_
    clear F4
    rintro rv small' h5 tk5 F5 N5 hne5 ⟨⟨tkq, rfl⟩, hT2'⟩
    have hqv : dsum (((Builtin.Int.intBits b : Nat) : Int)).toNat qs.reverse 0 qs.reverse.length = a.fdiv b := by
      rw [Int.toNat_natCast, List.length_reverse, q1]; rfl
    rw [hqv]
    rw [q2] at hr
    (try dsimp only)
    k_steps
    rename Fr _ _ _ _ => F6
    rename News _ _ _ _ => N6
    rename_i D hD hDl
    exact hr _ _ _ _ (Fr.keep F6) (led_sub (sm := (D, tupO [.int (a.fdiv b) tkq, .int r tr]) :: (sm1' ++ small')) N6 (List.forall_mem_cons.mpr ⟨.head _, fun p hp => .tail _ ((List.mem_append.mp hp).elim (fun h => List.mem_append_right _ (.tail _ h)) fun h => List.mem_append_left _ h)⟩))
      ⟨D, tkq, tr, _, rfl, rfl, ⟨sm1', small', rfl, hT1', hT2', fun q hq z hz => (hne5 z hz q (.tail _ hq)).symm⟩, fun z hz => Ne.symm (Nat.ne_of_lt (hDl z ((List.mem_append.mp hz).elim (fun h => List.mem_append_right _ (.tail _ h)) fun h => List.mem_append_left _ h)))⟩
end
end Mine

namespace Mine
example : PySem.Challenge.rw_kn0018_01 = PySem.Challenge.rw_kn0018_01 ∧ hd.heap_39 = hd.heap_39 := by k_fill; exact ⟨rfl, rfl⟩

local macro_rules | `(tactic| walk_at "call ref") => `(tactic| (refine halt ?_))
section
variable {prog : Program} {w : World} {p : Program} {loose : List Str} {mean : ExcName → Option Value} {mg mb : Str → Option Value}

set_option maxRecDepth 100000 in
set_option maxHeartbeats 4000000 in
theorem dm1 {a b : Int} {ta tb : Tok} {sm : List (Addr × Obj)} (hT : Tabs sm) (ha : 0 ≤ a) (hba : Builtin.Int.intBits a ≤ 16000) (hb : 0 < b) (hbb : Builtin.Int.intBits b ≤ 8000) :
    Con prog w (hd.heap_39 w.params) p loose mean mg mb 32 210 56 [.int a ta, .int b tb] sm (RetT (a.fdiv b) (a.fmod b)) := by
  intro dp un gd base g outer s R hd hu G X T hr
  have B := G.below
  refine enter_def (binds := [("a", .int a ta), ("b", .int b tb)]) G X T (by k_is) (by k_is) (by show dp < _; omega) (by exact BindsTo.of_eq rfl) (by exact locs rfl) ?_ (by rfl) (by rfl) (by rfl) (by decide)
  k_whole
  intro L' h' F' N' l1
  (try dsimp only)
  (try k_fold)
  k_steps
  any_goals (exfalso; omega)
  unfold Halt
  refine con_use (divmod_pos hT ha hba hb hbb) B (by assumption) X (by assumption) T rfl rfl rfl rfl (by show dp + 1 + 30 < _; omega) (by show un + 3 + 200 < _; omega)
    (fun _ h => h) (rest := []) (fun _ h => nomatch h) (fun _ h => nomatch h) ?_
  rintro r small' h1 tk1 F1 N1 hne1 ret
  rw [List.append_nil] at N1
  exact hr _ _ _ _ (Fr.keep F1) (led_of N1) ret

theorem inv_fdm {a b : Int} (hb : 0 < b) : -(-a - 1).fdiv b - 1 = a.fdiv b ∧ b + (-(-a - 1).fmod b - 1) = a.fmod b := by
  obtain ⟨f1, f2, f3⟩ := fdm_spec (A := -a - 1) hb
  obtain ⟨e1, e2⟩ := fdm_of (A := a) (q := -(-a - 1).fdiv b - 1) (r := b + (-(-a - 1).fmod b - 1)) hb (by grind) (by omega) (by omega)
  exact ⟨e1.symm, e2.symm⟩
theorem neg_fdm {a b : Int} : (-a).fdiv (-b) = a.fdiv b ∧ -(-a).fmod (-b) = a.fmod b := by
  constructor
  · exact Int.neg_fdiv_neg a b
  · rw [Int.neg_fmod_neg]; omega

set_option maxRecDepth 100000 in
set_option maxHeartbeats 4000000 in
theorem dm2 {a b : Int} {ta tb : Tok} {sm : List (Addr × Obj)} (hT : Tabs sm) (hba : Builtin.Int.intBits a ≤ 15000) (hb : 0 < b) (hbb : Builtin.Int.intBits b ≤ 8000) :
    Con prog w (hd.heap_39 w.params) p loose mean mg mb 34 220 56 [.int a ta, .int b tb] sm (RetT (a.fdiv b) (a.fmod b)) := by
  by_cases ha : 0 ≤ a
  · exact (dm1 hT ha (by omega) hb hbb).mono (by omega) (by omega) fun _ _ h => h
  have bi : Builtin.Int.intBits (-a - 1) ≤ 16000 := Nat.le_trans (bits_sub (bits_neg hba) (show Builtin.Int.intBits 1 ≤ 15000 by decide)) (by decide)
  intro dp un gd base g outer s R hd hu G X T hr
  have B := G.below
  refine enter_def (binds := [("a", .int a ta), ("b", .int b tb)]) G X T (by k_is) (by k_is) (by show dp < _; omega) (by exact BindsTo.of_eq rfl) (by exact locs rfl) ?_ (by rfl) (by rfl) (by rfl) (by decide)
  k_whole
  intro L' h' F' N' l1
  (try dsimp only)
  (try k_fold)
  k_steps
  any_goals (exfalso; omega)
  unfold Halt
  rename Fr _ _ _ _ => F1
  rename News _ _ _ _ => N1
  refine con_use (dm1 hT (a := -a - 1) (by omega) bi hb hbb) B F1 X N1 T rfl rfl rfl rfl (by show dp + 1 + 32 < _; omega) (by show un + 3 + 210 < _; omega)
    (fun _ h => h) (rest := []) (fun _ h => nomatch h) (fun _ h => nomatch h) ?_
  clear F1 N1
  rintro rv small' h1 tk1 F1 N1 hne1 ⟨t, k1, k2, sm', rfl, rfl, hT', hne⟩
  rw [List.append_nil] at N1
  (try dsimp only)
  k_steps
  rename Fr _ _ _ _ => F2
  rename News _ _ _ _ => N2
  rename_i D hD hDl
  rw [← (inv_fdm (a := a) hb).1, ← (inv_fdm (a := a) hb).2] at hr
  exact hr _ _ _ _ (Fr.keep F2) (led_sub (sm := (D, tupO [.int _ _, .int _ _]) :: sm') N2 (List.forall_mem_cons.mpr ⟨.head _, fun _ h => .tail _ (.tail _ h)⟩))
    ⟨D, _, _, sm', rfl, rfl, hT', fun z hz => Ne.symm (Nat.ne_of_lt (allLt_to hDl.2 z hz))⟩

set_option maxRecDepth 100000 in
set_option maxHeartbeats 4000000 in
theorem dm3 {a b : Int} {ta tb : Tok} {sm : List (Addr × Obj)} (hT : Tabs sm) (hba : Builtin.Int.intBits a ≤ 15000) (hb : b ≠ 0) (hbb : Builtin.Int.intBits b ≤ 8000) :
    Con prog w (hd.heap_39 w.params) p loose mean mg mb 36 230 56 [.int a ta, .int b tb] sm (RetT (a.fdiv b) (a.fmod b)) := by
  by_cases hb' : 0 < b
  · exact (dm2 hT hba hb' hbb).mono (by omega) (by omega) fun _ _ h => h
  intro dp un gd base g outer s R hd hu G X T hr
  have B := G.below
  refine enter_def (binds := [("a", .int a ta), ("b", .int b tb)]) G X T (by k_is) (by k_is) (by show dp < _; omega) (by exact BindsTo.of_eq rfl) (by exact locs rfl) ?_ (by rfl) (by rfl) (by rfl) (by decide)
  k_whole
  intro L' h' F' N' l1
  (try dsimp only)
  (try k_fold)
  k_steps
  any_goals (exfalso; omega)
  unfold Halt
  rename Fr _ _ _ _ => F1
  rename News _ _ _ _ => N1
  refine con_use (dm2 hT (a := -a) (b := -b) (bits_neg hba) (by omega) (bits_neg hbb)) B F1 X N1 T rfl rfl rfl rfl (by show dp + 1 + 34 < _; omega) (by show un + 3 + 220 < _; omega)
    (fun _ h => h) (rest := []) (fun _ h => nomatch h) (fun _ h => nomatch h) ?_
  clear F1 N1
  rintro rv small' h1 tk1 F1 N1 hne1 ⟨t, k1, k2, sm', rfl, rfl, hT', hne⟩
  rw [List.append_nil] at N1
  (try dsimp only)
  k_steps
  rename Fr _ _ _ _ => F2
  rename News _ _ _ _ => N2
  rename_i D hD hDl
  rw [← (neg_fdm (a := a) (b := b)).1, ← (neg_fdm (a := a) (b := b)).2] at hr
  exact hr _ _ _ _ (Fr.keep F2) (led_sub (sm := (D, tupO [.int _ _, .int _ _]) :: sm') N2 (List.forall_mem_cons.mpr ⟨.head _, fun _ h => .tail _ (.tail _ h)⟩))
    ⟨D, _, _, sm', rfl, rfl, hT', fun z hz => Ne.symm (Nat.ne_of_lt (allLt_to hDl.2 z hz))⟩
end
end Mine

namespace Mine
local macro_rules | `(tactic| walk_at "MY none") => `(tactic| fail)
example : PySem.Challenge.rw_kn0018_01 = PySem.Challenge.rw_kn0018_01 ∧ hd.heap_39 = hd.heap_39 := by k_fill; exact ⟨rfl, rfl⟩

local macro_rules | `(tactic| bits_by_make) => `(tactic| with_reducible assumption)
local macro_rules | `(tactic| walk_at "call ref") => `(tactic| (refine halt ?_))
local macro_rules | `(tactic| walk_at "exec While") => `(tactic| (refine halt ?_))
local macro_rules | `(tactic| walk_at "exec While Compare cons nil") => `(tactic| (refine halt ?_))
section
variable {prog : Program} {w : World} {p : Program} {loose : List Str} {mean : ExcName → Option Value} {mg mb : Str → Option Value}

set_option maxRecDepth 100000 in
set_option maxHeartbeats 4000000 in
theorem points {c₀ s₁ t b : Int} {tc ts tt tb : Tok} {sm : List (Addr × Obj)} (hT : Tabs sm) (hE : Eu 0 c₀ s₁ t b (fsum c₀.toNat s₁ t b)) :
    Con prog w (hd.heap_39 w.params) p loose mean mg mb 40 300 70 [.int c₀ tc, .int s₁ ts, .int t tt, .int b tb] sm (fun r sm' => (∃ k, r = .int (fsum c₀.toNat s₁ t b) k) ∧ (0 < c₀ → TabsF sm')) := by
  generalize fsum c₀.toNat s₁ t b = TOT at *
  intro dp un gd base g outer s R hd hu G X T hr
  have B := G.below
  refine enter_def (binds := [("count", .int c₀ tc), ("slope", .int s₁ ts), ("start", .int t tt), ("base", .int b tb)]) G X T (by k_is) (by k_is) (by show dp < _; omega) (by exact BindsTo.of_eq rfl) (by exact locs rfl) ?_ (by rfl) (by rfl) (by rfl) (by decide)
  k_whole
  intro L' h' F' N' l1
  (try dsimp only)
  (try k_fold)
  k_steps
  unfold Halt
  rename Fr _ _ _ _ => F1
  rename News _ _ _ _ => N1
  (try dsimp only at F1 N1)
  refine While_inv2 (prog := prog) (fun n m nx => ∃ tot c s t b k1 k2 k3 k4 k5, Tabs nx ∧ (0 < c₀ → 0 < c ∨ TabsF nx) ∧ Eu tot c s t b TOT ∧ n = b.natAbs ∧ m (Str.ofString "total") = some (.int tot k1) ∧ m (Str.ofString "count") = some (.int c k2) ∧ m (Str.ofString "slope") = some (.int s k3) ∧ m (Str.ofString "start") = some (.int t k4) ∧ m (Str.ofString "base") = some (.int b k5))
    (n₀ := b.natAbs) F1 N1 ⟨_, _, _, _, _, _, _, _, _, _, hT, .inl, hE, rfl, rfl, rfl, rfl, rfl, rfl⟩ ?_
  clear F1 N1
  rintro n m₁ nx h tk F1 N1 ⟨tot, c, s, t, b, k1, k2, k3, k4, k5, hT1, hF1, hE1, rfl, hm1, hm2, hm3, hm4, hm5⟩
  rw [map_eq (m := m₁) (ps := [(Str.ofString "total", .int tot k1), (Str.ofString "count", .int c k2), (Str.ofString "slope", .int s k3), (Str.ofString "start", .int t k4), (Str.ofString "base", .int b k5)]) (List.forall_mem_cons.mpr ⟨hm1, List.forall_mem_cons.mpr ⟨hm2, List.forall_mem_cons.mpr ⟨hm3, List.forall_mem_cons.mpr ⟨hm4, List.forall_mem_cons.mpr ⟨hm5, List.forall_mem_nil _⟩⟩⟩⟩⟩)] at F1
  clear hm1 hm2 hm3 hm4 hm5
  simp only [kstB] at F1
  have bs := hE1.bs
  have bt := hE1.bt
  have bb := hE1.bb
  have c0 := hE1.c0
  have c1 := hE1.c1
  (try k_fold)
  k_steps
  · unfold Halt
    rename 0 < c => hc
    have hb := hE1.nz hc
    refine con_use (dm3 hT1 (a := s) (b := b) (by omega) hb (by omega)) B F1 X N1 T rfl rfl rfl rfl (by show dp + 1 + 36 < _; omega) (by show un + 3 + 230 < _; omega)
      (fun _ h => h) (rest := []) (fun _ h => nomatch h) (fun _ h => nomatch h) ?_
    clear F1 N1
    rintro rv small' h2 tk2 F1 N1 hne1 ⟨t1, q1, q2, sm1, rfl, rfl, hT2, hne2⟩
    rw [List.append_nil] at N1
    (try dsimp only)
    k_steps
    unfold Halt
    rename Fr _ _ _ _ => F1
    rename News _ _ _ _ => N1
    refine con_use (dm3 hT2.tabs (a := t) (b := b) (by omega) hb (by omega)) B F1 X N1 T rfl rfl rfl rfl (by show dp + 1 + 36 < _; omega) (by show un + 3 + 230 < _; omega)
      (fun _ h => .tail _ h) (rest := []) (fun _ h => nomatch h) (fun _ h => nomatch h) ?_
    clear F1 N1
    rintro rv small' h3 tk3 F1 N1 hne1 ⟨t2, q3, q4, sm2, rfl, rfl, hT3, hne3⟩
    rw [List.append_nil] at N1
    (try dsimp only)
    k_steps
    · rename c = 1 => h1
      rename Fr _ _ _ _ => F2
      rename News _ _ _ _ => N2
      subst h1
      have e := hE1.one
      subst e
      exact hr _ _ _ _ (Fr.keep F2) (led_sub (sm := sm2) N2 (fun _ h => .tail _ h)) ⟨⟨_, rfl⟩, fun _ => hT3⟩
    · unfold Halt
      rename Fr _ _ _ _ => F2
      rename News _ _ _ _ => N2
      rename b < 0 => hneg
      obtain ⟨s1, s2⟩ := fmod_neg (s := s) hneg
      obtain ⟨s3, s4⟩ := fmod_neg (s := t) hneg
      have bs' : Builtin.Int.intBits (-s.fmod b) ≤ 7000 := bits_of_natAbs_le (b := b) (by omega) bb
      have bt' : Builtin.Int.intBits (-t.fmod b) ≤ 7000 := bits_of_natAbs_le (b := b) (by omega) bb
      have bc : Builtin.Int.intBits c ≤ 64 := PySem.intBits_le_64 (by omega) (by omega)
      have hl := hE1.lose hc
      rw [← fsum_neg] at hl
      obtain ⟨hE2, hlt⟩ := Eu.next (by omega) c1 (bits_neg bb) s1 s2 s3 s4 hl
      refine con_use (dm3 hT3.tabs (a := -s.fmod b * c + -t.fmod b) (b := -b) (Nat.le_trans (bits_add (bits_mul bs' bc) bt') (by decide)) (by omega) (Nat.le_trans (bits_neg bb) (by decide))) B F2 X N2 T rfl rfl rfl rfl (by show dp + 1 + 36 < _; omega) (by show un + 3 + 230 < _; omega)
        (fun _ h => .tail _ (.tail _ h)) (rest := []) (fun _ h => nomatch h) (fun _ h => nomatch h) ?_
      clear F2 N2
      rintro rv small' h4 tk4 F1 N1 hne1 ⟨t3, q5, q6, sm3, rfl, rfl, hT4, hne4⟩
      rw [List.append_nil] at N1
      (try dsimp only)
      k_steps
      rename Fr _ _ _ _ => F3
      rename News _ _ _ _ => N3
      exact ws2_next (n' := (-s.fmod b).natAbs) F3 N3 (news₂ := sm3) (fun _ h => .tail _ (.tail _ h)) (by omega) ⟨_, _, _, _, _, _, _, _, _, _, hT4.tabs, fun _ => .inr hT4, hE2, rfl, rfl, rfl, rfl, rfl, rfl⟩
    · unfold Halt
      rename Fr _ _ _ _ => F2
      rename News _ _ _ _ => N2
      rename ¬ b < 0 => hneg
      obtain ⟨s1, s2⟩ := fmod_pos (s := s) (b := b) (by omega)
      obtain ⟨s3, s4⟩ := fmod_pos (s := t) (b := b) (by omega)
      have bs' : Builtin.Int.intBits (s.fmod b) ≤ 7000 := bits_of_natAbs_le (b := b) (by omega) bb
      have bt' : Builtin.Int.intBits (t.fmod b) ≤ 7000 := bits_of_natAbs_le (b := b) (by omega) bb
      have bc : Builtin.Int.intBits c ≤ 64 := PySem.intBits_le_64 (by omega) (by omega)
      obtain ⟨hE2, hlt⟩ := Eu.next (by omega) c1 bb s1 s2 s3 s4 (hE1.lose hc)
      refine con_use (dm3 hT3.tabs (a := s.fmod b * c + t.fmod b) (b := b) (Nat.le_trans (bits_add (bits_mul bs' bc) bt') (by decide)) (by omega) (Nat.le_trans bb (by decide))) B F2 X N2 T rfl rfl rfl rfl (by show dp + 1 + 36 < _; omega) (by show un + 3 + 230 < _; omega)
        (fun _ h => .tail _ h) (rest := []) (fun _ h => nomatch h) (fun _ h => nomatch h) ?_
      clear F2 N2
      rintro rv small' h4 tk4 F1 N1 hne1 ⟨t3, q5, q6, sm3, rfl, rfl, hT4, hne4⟩
      rw [List.append_nil] at N1
      (try dsimp only)
      k_steps
      rename Fr _ _ _ _ => F3
      rename News _ _ _ _ => N3
      exact ws2_next (n' := (s.fmod b).natAbs) F3 N3 (news₂ := sm3) (fun _ h => .tail _ (.tail _ h)) (by omega) ⟨_, _, _, _, _, _, _, _, _, _, hT4.tabs, fun _ => .inr hT4, hE2, rfl, rfl, rfl, rfl, rfl, rfl⟩
  · have hz : c.toNat = 0 := by omega
    have e := hE1.sum
    rw [hz] at e
    simp only [fsum, Int.add_zero] at e
    subst e
    exact hr _ _ _ _ (Fr.keep F1) (led_of N1) ⟨⟨_, rfl⟩, fun h => (hF1 h).resolve_left (by omega)⟩
end
end Mine

namespace Mine
example : PySem.Challenge.rw_kn0018_01 = PySem.Challenge.rw_kn0018_01 ∧ hd.heap_39 = hd.heap_39 := by k_fill; exact ⟨rfl, rfl⟩

local macro_rules | `(tactic| bits_by_make) => `(tactic| with_reducible assumption)
local macro_rules | `(tactic| walk_at "M nn") => `(tactic| first | assumption | omega)
local macro_rules | `(tactic| walk_at "binaryOp LShift int int") => `(tactic| ((with_reducible refine lshift_int ?kbn ?kbs ?_); (case kbn => walk_at "M nn"); (case kbs => exact kbm_shl (by bits_by_make) (by omega) (by decide))))
local macro_rules | `(tactic| walk_at "binaryOp LShift int int") => `(tactic| ((with_reducible refine one_shl ?_ ?_ ?_); walk_at "M nn"; omega))

theorem any_range (x : Int) (k : Nat) : -2 ^ k ≤ (x + 2 ^ k).fmod (2 * 2 ^ k) - 2 ^ k ∧ (x + 2 ^ k).fmod (2 * 2 ^ k) - 2 ^ k < 2 ^ k := by
  have hp := pow_pos' k
  obtain ⟨a, b⟩ := fmod_pos (s := x + 2 ^ k) (show (0 : Int) < 2 * 2 ^ k by omega)
  omega
theorem any_bits (x : Int) (k : Nat) : Builtin.Int.intBits ((x + 2 ^ k).fmod (2 * 2 ^ k) - 2 ^ k) ≤ k + 1 := by
  obtain ⟨a, b⟩ := any_range x k
  rw [PySem.intBits_le_iff, Nat.pow_succ]
  have := pow_cast k
  have := Nat.two_pow_pos k
  omega
section
variable {prog : Program} {w : World} {p : Program} {loose : List Str} {mean : ExcName → Option Value} {mg mb : Str → Option Value}

set_option maxRecDepth 100000 in
set_option maxHeartbeats 4000000 in
theorem law_any {l : Addr} {vs : List Value} {ns : List Int} {k other size : Int} {tk to ts : Tok} (hi : IntsAre vs ns) (hn : ns.length ≤ 1000) (hns : ∀ x ∈ ns, Builtin.Int.intBits x ≤ 1048576) (hk : 0 ≤ k) (hk2 : k ≤ 1000) (h0 : 0 ≤ size) (h1 : size ≤ 12000) :
    ConP prog w (hd.heap_39 w.params) p loose mean mg mb 5 60 (fun g => g.IsList l vs.toArray) 63 [.ref l, .int k tk, .int other to, .int size ts] [] (fun r sm => (∃ v t, r = .int v t ∧ Builtin.Int.intBits v ≤ 12001 ∧ Builtin.Int.intBits v ≤ size.toNat + 1) ∧ sm = []) := by
  intro dp un gd base g outer s R hd hu G X T hls hr
  have B := G.below
  obtain ⟨hm0, hm1⟩ := fmod_pos (s := ns.getD k.toNat 0) (show (0 : Int) < 4397 by decide)
  have bk : Builtin.Int.intBits (ns.getD k.toNat 0) ≤ 1048576 := by
    by_cases hj : k.toNat < ns.length
    · have e : ns.getD k.toNat 0 = ns[k.toNat] := by simp [List.getD, hj]
      rw [e]; exact hns _ (List.getElem_mem hj)
    · have e : ns.getD k.toNat 0 = 0 := by simp [List.getD, Nat.not_lt.mp hj]
      rw [e]; decide
  refine enter_def (binds := [("script", .ref l), ("k", .int k tk), ("other", .int other to), ("size", .int size ts)]) G X T (by k_is) (by k_is) (by show dp < _; omega) (by exact BindsTo.of_eq rfl) (by exact locs rfl) ?_ (by rfl) (by rfl) (by rfl) (by decide)
  k_whole
  intro L' h' F' N' l1
  (try dsimp only)
  (try k_fold)
  k_steps
  · exact hr _ [] _ _ (Fr.keep (by assumption)) (fun _ h => nomatch h) ⟨⟨_, _, rfl, Nat.le_trans (any_bits _ _) (by omega), any_bits _ _⟩, rfl⟩
  · exact hr _ [] _ _ (Fr.keep (by assumption)) (fun _ h => nomatch h) ⟨⟨_, _, rfl, Nat.le_trans (any_bits _ _) (by omega), any_bits _ _⟩, rfl⟩

end
end Mine

namespace Mine
local macro_rules | `(tactic| walk_at "MY none") => `(tactic| fail)
local macro_rules | `(tactic| walk_at "MY none") => `(tactic| fail)
local macro_rules | `(tactic| walk_at "MY none") => `(tactic| fail)
def CntP (h₀ : Heap) (L : Addr) (m : Str → Option Value) (news : List (Addr × Obj)) (s : Shared) (v : Value) (s' : Shared) : Prop :=
  ∃ z t h tk, v = .int z t ∧ 2 ≤ z ∧ z ≤ 61 ∧ s' = { s with heap := h, toks := tk } ∧ Fr h₀ L h m ∧ News h₀ L h news
theorem bits_one {x : Int} {n : Nat} (h : Builtin.Int.intBits x ≤ n) : Builtin.Int.intBits (1 * x) ≤ n := by rwa [Int.one_mul]
theorem bits_mone {x : Int} {n : Nat} (h : Builtin.Int.intBits x ≤ n) : Builtin.Int.intBits (-1 * x) ≤ n := by rw [Int.neg_mul, Int.one_mul]; exact bits_neg h
theorem one_ne {x : Int} (h : x ≠ 0) : 1 * x ≠ 0 := by omega
theorem mone_ne {x : Int} (h : x ≠ 0) : -1 * x ≠ 0 := by omega
theorem fsum_range (s t b : Int) : ∀ n : Nat, fsum n s t b = List.sum (List.map (fun k : Int => (s * k + t).fdiv b) (rangeKs 0 n))
  | 0 => by rfl
  | n + 1 => by
    rw [fsum, fsum_range s t b n]
    unfold rangeKs
    rw [List.range_succ, List.map_append, List.map_append, List.sum_append]
    simp
theorem fsum_floors {c : Int} {n : Nat} {s t b : Int} {f : Int → Int} (hn : c.toNat = n) (hf : ∀ k, f k = (s * k + t).fdiv b) : fsum c.toNat s t b = List.sum (List.map f (rangeKs 0 n)) := by
  rw [← hn, fsum_range]
  congr 2
  funext k
  exact (hf k).symm
theorem cnt_lo {x : Int} : 2 ≤ 2 + x.fmod 60 := by have := (fmod_pos (s := x) (b := 60) (by decide)).1; omega
theorem cnt_hi {x : Int} : 2 + x.fmod 60 ≤ 61 := by have := (fmod_pos (s := x) (b := 60) (by decide)).2; omega
theorem cnt_join {M : Model} {A : Around} {E Q : Value → Shared → Prop} {s : Shared} {c : Sem Value} {h₀ : Heap} {L : Addr} {m : Str → Option Value} {news : List (Addr × Obj)} (F : Fr h₀ L s.heap m) (N : News h₀ L s.heap news)
    (hc : wpAny M A c (fun v s' => CntP h₀ L m news s v s') E s)
    (hk : ∀ z t h tk, 2 ≤ z → z ≤ 61 → Fr h₀ L h m → News h₀ L h news → Q (.int z t) { s with heap := h, toks := tk }) : wpAny M A c Q E s := by
  refine wpAny_mono hc (fun v s₂ hq => ?_) fun _ _ h => h
  obtain ⟨z, t, h, tk, rfl, h1, h2, rfl, F', N'⟩ := hq
  exact hk z t h tk h1 h2 F' N'
section
variable {prog : Program} {w : World} {A : Around} {E : Value → Shared → Prop} {s : Shared} {a b n : Int} {t u : Tok} {Q : Value → Shared → Prop}
theorem floordiv_s (hb : b ≠ 0) (hbb : Builtin.Int.intBits b ≤ 9000) (h : Q (.int (a.fdiv b) s.toks) { s with toks := s.toks + 1 }) : wpAny (model prog w) A (binaryOp .FloorDiv (.int a t) (.int b u)) Q E s :=
  floordiv_int (by omega) h (.inl (no_pyl hbb))
end
section
open PyProof.Rows
variable {prog : Program} {w : World} {A₀ A : Around} {s : Shared} {base h₀ g₀ : Heap} {outer : List Env} {env : Env} {L a : Addr} {m : Str → Option Value} {news : List (Addr × Obj)} {K : Frag} {p : Program} {loose : List Str} {mean : ExcName → Option Value} {mg mb : Str → Option Value}
    {R : Result → Shared → Prop} {name qual : Str} {params : Arguments} {body : List Stmt} {scope : Scope} {dV kV doc pm cdv ct oc : Value} {an od : Option Addr} {osl : Array (Option Value)} {f : Addr} {args : Args} {binds : List (Str × Value)}
theorem code_defSC (B : Below A₀ base [] h₀) (F : Fr h₀ L s.heap m) (X₀ : K.In h₀) (N : News h₀ L s.heap news) (T : Top p loose mean mg mb h₀) (hA : A.frames = some [env]) (hf : env.frame = some L) (hck : env.scope.kind = .function)
    (ho : K.lookup f = some ⟨oc, od, .func (fnOf name qual params body scope dV kV doc pm an cdv ct), osl⟩) (hcd : codeIn K cdv qual = true) (hroom : A.depth < recursionLimit)
    (hbind : BindsTo s (fnOf name qual params body scope dV kV doc pm an cdv ct) args binds) (hloc : ∀ y ∈ binds, scope.names.lookup y.1 = some .local)
    (h : ∀ g L' h₁, Fr h₀ L g m → Fr g L' h₁ (fun y => binds.reverse.lookup y) → News g L' h₁ news → Below A base [env] g → K.In g → Top p loose mean mg mb g → KtsDicts ([env].filterMap (·.frame)) g →
      wpAny (model prog w) (A.deeper (envOf qual scope L' f cdv)) (execs body (envOf qual scope L' f cdv))
        (fun fl s' => LeaveS0 ([env].filterMap (·.frame)) h₀ L m g R (match fl with | .ret v => v | _ => .none) s')
        (fun e s' => wpAny (model prog w) (A.deeper (envOf qual scope L' f cdv)) (leaving (envOf qual scope L' f cdv) e) (fun _ s'' => R (.error e) s'') (fun e' s'' => R (.error e') s'') s')
        { s with heap := h₁, toks := s.toks + binds.length })
    (hco : scope.isCoroutine = false) (hgen : scope.isGenerator = false) (hk : scope.kind = .function)
    (hcell : ∀ x ∈ scope.names, x.2 ≠ .cell) : codeAny (model prog w) A (.call (.ref f) args) R s := by
  have hfs : ∀ b, b ∈ ([env].filterMap (·.frame)) → b = L := fun b hb => by simp [hf] at hb; exact hb
  have X := X₀.keeps F.keep
  refine codeAny_call_def (fd := fnOf name qual params body scope dV kV doc pm an cdv ct) (body := body) (binds := binds) hroom (X _ _ ho) rfl (T.nolimit.keeps F.keep) (codeRec_of X hcd) rfl hbind hcell hloc (fun h₁ hns hk₁ => ?_) hco hgen hk
  obtain ⟨FG, B₂, st, -⟩ := groundX (A := A) (R := fun _ _ => True) B F N hA hf hck
  obtain ⟨oL, es, ep, hL, hLd, hLk, hLf⟩ := F.ns
  have nL : L ∉ news.map (·.1) := fun q => by
    obtain ⟨p, hp, e⟩ := List.mem_map.mp q
    exact (N p hp).2.1 e
  have hLg := hideAll_get (news.map (·.1)) hL nL
  have hN : ∀ h', h'.get? L = some oL → Heap.Ns h' L m := fun h' e => ⟨oL, es, ep, e, hLd, hLk, hLf⟩
  have hNs : ∀ (sl : Array (Option Value)) h', h'.get? L = some { oL with slots := sl } → Heap.Ns h' L m := fun sl h' e => ⟨_, es, ep, e, hLd, hLk, hLf⟩
  refine wpAny_mono (h _ s.heap.objs.size h₁ ⟨hN _ hLg, st, F.above⟩ ⟨hns, fun b o e => hk₁ b o (of_hideAll _ e), Nat.le_of_eq (hideAll_size _ _)⟩
    (fun p hp => ⟨hk₁ _ _ (N p hp).1, Nat.ne_of_lt (Heap.lt_size (N p hp).1), hideAll_none _ (List.mem_map_of_mem hp)⟩) B₂ (X₀.keeps st) (T.keeps st) (fun b hb => by
      rw [hfs b hb]
      exact ⟨oL, es, ep, hLg, hLd⟩)) (fun fl s' hl => ?_) fun _ _ y => y
  obtain ⟨g', L', m', news', T', F', N', k⟩ := hl
  have nL₀ : h₀.get? L = none := kts_self F
  obtain ⟨sl, hs⟩ := T'.up hLg
  refine k ⟨hNs sl _ (F'.keep _ _ hs), fun b o e => F'.keep b o (T'.other b o (st b o e) (fun q => by
    rw [hfs b q, nL₀] at e
    cases e)), F.above⟩ fun p hp => ⟨(N' p hp).1, fun q => ?_, ?_⟩
  · have := (N' p hp).2.2; rw [q, hs] at this; cases this
  · cases q : h₀.get? p.1 with
    | none => rfl
    | some o =>
      obtain ⟨sl', hs'⟩ := T'.up (st _ _ q)
      have := (N' p hp).2.2
      rw [hs'] at this
      cases this
end
section
open PyProof.Rows
variable {prog : Program} {w : World} {A : Around} {E : Value → Shared → Prop} {s : Shared} {env : Env} {X N I newId initId : String}
theorem Raise_classM {x : Str} {np pos : Pos} {Q : Flow → Shared → Prop} (hh : A.handled = none) (hc : ExcClass X N I) (F : ExcCallFacts X newId initId)
    (hself : isSubtype (.type X) (.type X) = pure true)
    (hx : wpAny (model prog w) A (eval (.Name x np) env) (fun v s₁ => v = .type X ∧ s₁ = s) E s)
    (h : ∀ h' e, Heap.MadeExc s.heap h' e X [] → E (.ref e) { s with heap := h' }) :
    wpAny (model prog w) A (exec (.Raise (some (.Name x np)) none pos) env) Q E s := by
  show wpAny (model prog w) A (do standAt pos; raiseStmt env (some (do let v ← eval (.Name x np) env; standAt pos; pure v)) none) Q E s
  refine wpAny_bind (wpAny_standAt ?_)
  unfold raiseStmt
  dsimp only
  refine wpAny_bind (wpAny_bind (wpAny_mono hx (fun v s₁ h₁ => wpAny_bind (wpAny_standAt (wpAny_pure ?_))) fun _ _ e => e))
  obtain ⟨rfl, hs₁⟩ := h₁
  subst s₁
  refine wpAny_bind (wpAny_pure ?_)
  dsimp only
  refine wpAny_bind (wpAny_holding ?_)
  unfold excFromValue isExcClass
  refine wpAny_bind (wpAny_bind (wpAny_pure ?_))
  simp only [if_true]
  rw [hc.base]
  refine wpAny_pure ?_
  simp only [if_true]
  obtain ⟨hp, g, d, tk, os⟩ := s
  refine wpAny_bind (wpAny_call_exc F (fun h' e hm => ?_))
  have hn := hm.newExc
  obtain ⟨ob, t, he, hcls, hd⟩ := hn.there
  have hT : (Shared.mk h' g d tk os).TypeIs (.ref e) X := ⟨ob, he, hcls⟩
  refine wpAny_bind (wpAny_isInstance hT hc.base ?_)
  simp only [Bool.not_true, Bool.false_eq_true, if_false]
  refine wpAny_pure ?_
  first | (refine wpAny_bind (m := isType (.type X)) (wpAny_pure ?_)) | (refine wpAny_bind (wpAny_pure ?_))
  first | (rw [if_pos rfl]) | (simp only [if_true]) | dsimp only
  refine wpAny_bind (wpAny_holding ?_)
  unfold raisedFor
  first | (simp only [Bool.false_eq_true, if_false]) | (rw [if_neg (by decide)]) | skip
  first | (refine wpAny_bind (wpAny_typeOf hT ?_)) | (refine wpAny_bind ?_; refine wpAny_bind (wpAny_typeOf hT ?_))
  refine wpAny_bind (call_issubclass (issubclass_self hc hself) ?_)
  first | (refine wpAny_bind (wpAny_truthy_bool ?_)) | (refine wpAny_truthy_bool ?_) | (dsimp only [wants]; first | (refine wpAny_bind (wpAny_truthy_bool ?_)) | (refine wpAny_truthy_bool ?_))
  first | (rw [if_pos rfl]) | (simp only [if_true]) | skip
  refine wpAny_pure ?_
  unfold setFlight raiseNew
  refine wpAny_bind (wpAny_bind (wpAny_field (i := 1) (x := Value.none) he hd rfl ?_))
  rw [if_neg (by decide)]
  refine wpAny_pure (wpAny_bind (wpAny_handled ?_))
  rw [hh]
  first
    | exact wpAny_throw (h h' e hm)
    | exact wpAny_bind (wpAny_pure (wpAny_throw (h h' e hm)))
end
theorem got_in {g h : Heap} {L e tt : Addr} {n₂ news : List (Addr × Obj)} {cls : Value} {vs : List Value} (G : Got n₂ e tt cls vs) (N₂ : News g L h n₂) (N : News g L h news) :
    ∃ od nt sl, News g L h ((tt, (Obj.mk (.type "tuple") od (.seq vs.toArray nt) sl)) :: news) := by
  obtain ⟨oe, ot, ws, nt, he, ht, q1, q2, q3, q4, q5⟩ := G
  obtain ⟨c, od, dd, sl⟩ := ot
  dsimp only at q4 q5
  subst q4 q5
  exact ⟨od, nt, sl, fun q hq => (List.mem_cons.mp hq).elim (fun e => e ▸ N₂ _ ht) (N q)⟩
theorem fsum_side {c sd v u b : Int} : fsum c.toNat (sd * v) (sd * u) b = List.sum (List.map (fun k : Int => (sd * (v * k + u)).fdiv b) (rangeKs 0 (c - 0).toNat)) :=
  fsum_floors (congrArg Int.toNat (Int.sub_zero c).symm) (fun k => by rw [Int.mul_add, Int.mul_assoc])
section
variable {prog : Program} {w : World} {A : Around} {E : Value → Shared → Prop} {s : Shared} {a b : Int} {t u : Tok} {Q : Value → Shared → Prop}
theorem ne_same (hb : a = b) (h : Q (.bool false) s) : wpAny (model prog w) A (compareOp .NotEq (.int a t) (.int b u)) Q E s := by
  subst hb
  refine ne_int ?_
  simpa using h
end
theorem eu_of {c s t b : Int} (h2 : 2 ≤ c) (h61 : c ≤ 61) (hb : b ≠ 0) (bs : Builtin.Int.intBits s ≤ 13000) (bt : Builtin.Int.intBits t ≤ 13000) (bb : Builtin.Int.intBits b ≤ 7000) : Eu 0 c s t b (fsum c.toNat s t b) :=
  ⟨by omega, h61, fun _ => hb, bs, bt, bb, Int.zero_add _⟩
def TabsAre (sm : List (Addr × Obj)) : Prop := Tabs sm
def NeA (a b : Addr) : Prop := a ≠ b
theorem NeA.l {a b : Addr} (h : NeA a b) : a ≠ b := h
theorem NeA.r {a b : Addr} (h : NeA b a) : a ≠ b := fun e => h e.symm
theorem neA {a b : Addr} (h : a ≠ b) : NeA a b := h
def NeL (c : Addr) (r : List (Addr × Obj)) : Prop := ∀ z ∈ r, c ≠ z.1
theorem NeL.l {c a : Addr} {o : Obj} {r : List (Addr × Obj)} (h : NeL c r) (m : (a, o) ∈ r) : c ≠ a := h _ m
theorem NeL.r {c a : Addr} {o : Obj} {r : List (Addr × Obj)} (h : NeL c r) (m : (a, o) ∈ r) : a ≠ c := (h _ m).symm
/-- a ledger parted in the tables and the rest -/
inductive Sp : List (Addr × Obj) → List (Addr × Obj) → List (Addr × Obj) → Prop
  | nil : Sp [] [] []
  | take {x : Addr × Obj} {s n r : List (Addr × Obj)} : Sp s n r → Sp (x :: s) (x :: n) r
  | keep {x : Addr × Obj} {s n r : List (Addr × Obj)} : Sp s n r → Sp s (x :: n) (x :: r)
  | swap {x y : Addr × Obj} {s n r : List (Addr × Obj)} : Sp (y :: x :: s) n r → Sp (x :: y :: s) n r
theorem Sp.both {s n r : List (Addr × Obj)} (h : Sp s n r) : (∀ q ∈ s, q ∈ n) ∧ ∀ q ∈ r, q ∈ n := by
  induction h with
  | nil => exact ⟨fun _ h => h, fun _ h => h⟩
  | take _ ih => exact ⟨fun q hq => (List.mem_cons.mp hq).elim (fun e => e ▸ .head _) fun h => .tail _ (ih.1 q h), fun q hq => .tail _ (ih.2 q hq)⟩
  | keep _ ih => exact ⟨fun q hq => .tail _ (ih.1 q hq), fun q hq => (List.mem_cons.mp hq).elim (fun e => e ▸ .head _) fun h => .tail _ (ih.2 q h)⟩
  | swap _ ih => exact ⟨fun q hq => (List.mem_cons.mp hq).elim (fun e => ih.1 q (e ▸ .tail _ (.head _))) fun h => (List.mem_cons.mp h).elim (fun e => ih.1 q (e ▸ .head _)) fun h => ih.1 q (.tail _ (.tail _ h)), ih.2⟩
/-- what the walk is told of the tables after a call -/
theorem pts_open {g h : Heap} {L : Addr} {sm rest : List (Addr × Obj)} (T : TabsF sm) (N : News g L h (sm ++ rest)) (hne : ∀ q ∈ sm, ∀ z ∈ rest, q.1 ≠ z.1) :
    ∃ c1 oc1 c2 oc2 vs1 t1 vs2 t2, TabsAre [(c1, oc1), (30, tabObj #[rawInt 32, rawInt 4, .ref c1]), (c2, oc2), (37, tabObj #[rawInt 47, rawInt 4, .ref c2])] ∧
      News g L h ((c1, oc1) :: (30, tabObj #[rawInt 32, rawInt 4, .ref c1]) :: (c2, oc2) :: (37, tabObj #[rawInt 47, rawInt 4, .ref c2]) :: rest) ∧
      NeL c1 ((30, tabObj #[rawInt 32, rawInt 4, .ref c1]) :: (c2, oc2) :: (37, tabObj #[rawInt 47, rawInt 4, .ref c2]) :: rest) ∧
      NeL c2 ((30, tabObj #[rawInt 32, rawInt 4, .ref c1]) :: (37, tabObj #[rawInt 47, rawInt 4, .ref c2]) :: rest) ∧ NeL 30 rest ∧ NeL 37 rest ∧
      oc1.data = .fields vs1 ∧ vs1[1]? = some (.str (Str.ofString "_int2digits.<locals>.inner") t1) ∧ oc2.data = .fields vs2 ∧ vs2[1]? = some (.str (Str.ofString "_digits2int.<locals>.inner") t2) := by
  obtain ⟨sm1, sm2, rfl, ⟨c1, oc1, vs1, t1, rfl, n1, d1, e1⟩, ⟨c2, oc2, vs2, t2, rfl, n2, d2, e2⟩, hap⟩ := T
  refine ⟨c1, oc1, c2, oc2, vs1, t1, vs2, t2, ⟨_, _, rfl, .inr ⟨_, _, _, _, rfl, n1, d1, e1⟩, .inr ⟨_, _, _, _, rfl, n2, d2, e2⟩, hap⟩, N, ?_, ?_, hne (30, _) (.tail _ (.head _)), hne (37, _) (.tail _ (.tail _ (.tail _ (.head _)))), d1, e1, d2, e2⟩
  · refine List.forall_mem_cons.mpr ⟨n1, List.forall_mem_cons.mpr ⟨hap (c1, oc1) (.head _) (c2, oc2) (.head _), List.forall_mem_cons.mpr ⟨hap (c1, oc1) (.head _) _ (.tail _ (.head _)), hne (c1, oc1) (.head _)⟩⟩⟩
  · refine List.forall_mem_cons.mpr ⟨(hap _ (.tail _ (.head _)) (c2, oc2) (.head _)).symm, List.forall_mem_cons.mpr ⟨n2, hne (c2, oc2) (.tail _ (.tail _ (.head _)))⟩⟩

def Sgn (x : Int) : Prop := x = 1 ∨ x = -1
theorem Sgn.lo {x : Int} (h : Sgn x) : -1 ≤ x := by rcases h with h | h <;> omega
theorem Sgn.hi {x : Int} (h : Sgn x) : x ≤ 1 := by rcases h with h | h <;> omega
theorem Sgn.ne {x v : Int} (h : Sgn x) (hv : v ≠ 0) : x * v ≠ 0 := by
  rcases h with h | h <;> subst h
  · exact one_ne hv
  · exact mone_ne hv
theorem Sgn.bits {x v : Int} {n : Nat} (h : Sgn x) (hv : Builtin.Int.intBits v ≤ n) : Builtin.Int.intBits (x * v) ≤ n := by
  rcases h with h | h <;> subst h
  · exact bits_one hv
  · exact bits_mone hv
theorem Tabs.fields {sm : List (Addr × Obj)} (T : Tabs sm) : ∀ q ∈ sm, ∃ vs, q.2.data = .fields vs := by
  obtain ⟨sm1, sm2, rfl, h1, h2, -⟩ := T
  intro q hq
  rcases List.mem_append.mp hq with hq | hq
  · rcases h1 with rfl | ⟨c, oc, vs, t, rfl, -, d, -⟩
    · rw [List.mem_singleton] at hq; subst hq; exact ⟨_, rfl⟩
    · rcases List.mem_cons.mp hq with rfl | hq
      · exact ⟨_, d⟩
      · rw [List.mem_singleton] at hq; subst hq; exact ⟨_, rfl⟩
  · rcases h2 with rfl | ⟨c, oc, vs, t, rfl, -, d, -⟩
    · rw [List.mem_singleton] at hq; subst hq; exact ⟨_, rfl⟩
    · rcases List.mem_cons.mp hq with rfl | hq
      · exact ⟨_, d⟩
      · rw [List.mem_singleton] at hq; subst hq; exact ⟨_, rfl⟩
theorem lst_apart {g h : Heap} {L D : Addr} {ys : List Value} {t sm : List (Addr × Obj)} (N : News g L h ((D, LCg.lst ys) :: t)) (T : Tabs sm) (hs : ∀ q ∈ sm, q ∈ (D, LCg.lst ys) :: t) : ∀ z ∈ sm, D ≠ z.1 := by
  intro z hz e
  have h1 := (N _ (.head _)).1
  have h2 := (N _ (hs z hz)).1
  obtain ⟨vs, hv⟩ := Tabs.fields T z hz
  rw [← e] at h2
  dsimp only at h1 h2
  rw [h1] at h2
  injection h2 with h2
  rw [← h2] at hv
  cases hv
theorem news_comm {g h : Heap} {L : Addr} {a b : List (Addr × Obj)} (N : News g L h (a ++ b)) : News g L h (b ++ a) := fun q hq => N q (List.mem_append.mpr (List.mem_append.mp hq).symm)

theorem fr_back {h₀ h : Heap} {L : Addr} {m : Str → Option Value} {x y : Str} {u : Option Value} {v : Value} (F : Fr h₀ L h (fun z => if z = x then u else if z = y then some v else m z)) (hm : m y = some v) : Fr h₀ L h (fun z => if z = x then u else m z) := by
  have e : (fun z => if z = x then u else if z = y then some v else m z) = fun z => if z = x then u else m z := by
    funext z
    by_cases q : z = y
    · subst q; rw [if_pos rfl, hm]
    · rw [if_neg q]
  rwa [e] at F
/-- the body of both loops, once for all signs -/
def BodyOk (M : Model) (A : Around) (c : Sem Flow) (s : Shared) (h₀ : Heap) (L a1 a2 a3 a4 a5 : Addr) (o1 o2 o3 : Obj) (cnt : Int) (tc : Tok) : Prop :=
  ∀ {Q : Flow → Shared → Prop} {E : Value → Shared → Prop} {sd tn : Int} {ks kt : Tok} {o4 o5 : Obj} {m : Str → Option Value} {small news R rest : List (Addr × Obj)} {h : Heap} {tk : Nat},
    Sp small news R → Sp [(a5, o5), (a4, o4), (a3, o3), (a2, o2), (a1, o1)] R rest →
    o4.data = .cell (some (.int sd ks)) → o5.data = .cell (some (.int tn kt)) → Sgn sd → Sgn tn → TabsAre small → m (Str.ofString "count") = some (.int cnt tc) →
    Fr h₀ L h m → News h₀ L h news → (∀ q ∈ R, ∀ z ∈ small, q.1 ≠ z.1) →
    (∀ D c1 oc1 c2 oc2 vs1 t1 vs2 t2 h' tk', TabsAre [(c1, oc1), (30, tabObj #[rawInt 32, rawInt 4, .ref c1]), (c2, oc2), (37, tabObj #[rawInt 47, rawInt 4, .ref c2])] →
      News h₀ L h' ((c1, oc1) :: (30, tabObj #[rawInt 32, rawInt 4, .ref c1]) :: (c2, oc2) :: (37, tabObj #[rawInt 47, rawInt 4, .ref c2]) :: (a5, o5) :: (a4, o4) :: (a3, o3) :: (a2, o2) :: (a1, o1) :: rest) →
      NeL c1 ((30, tabObj #[rawInt 32, rawInt 4, .ref c1]) :: (c2, oc2) :: (37, tabObj #[rawInt 47, rawInt 4, .ref c2]) :: (a5, o5) :: (a4, o4) :: (a3, o3) :: (a2, o2) :: (a1, o1) :: rest) →
      NeL c2 ((30, tabObj #[rawInt 32, rawInt 4, .ref c1]) :: (37, tabObj #[rawInt 47, rawInt 4, .ref c2]) :: (a5, o5) :: (a4, o4) :: (a3, o3) :: (a2, o2) :: (a1, o1) :: rest) →
      NeL 30 ((a5, o5) :: (a4, o4) :: (a3, o3) :: (a2, o2) :: (a1, o1) :: rest) → NeL 37 ((a5, o5) :: (a4, o4) :: (a3, o3) :: (a2, o2) :: (a1, o1) :: rest) →
      oc1.data = .fields vs1 → vs1[1]? = some (.str (Str.ofString "_int2digits.<locals>.inner") t1) → oc2.data = .fields vs2 → vs2[1]? = some (.str (Str.ofString "_digits2int.<locals>.inner") t2) →
      Fr h₀ L h' (fun z => if z = Str.ofString "floors" then some (.ref D) else m z) → Q .next { s with heap := h', toks := tk' }) →
    wpAny M A c Q E { s with heap := h, toks := tk }
theorem use_body {M : Model} {A : Around} {c : Sem Flow} {E : Value → Shared → Prop} {Q : Flow → Shared → Prop} {s s' : Shared} {h₀ : Heap} {L a1 a2 a3 a4 a5 : Addr} {o1 o2 o3 : Obj} {cnt : Int} {tc : Tok} {h : Heap} {x1 x2 x3 x4 : Addr × Obj} {o4 o5 : Obj} {t : List (Addr × Obj)} (_N : News h₀ L h (x1 :: x2 :: x3 :: x4 :: (a5, o5) :: (a4, o4) :: (a3, o3) :: (a2, o2) :: (a1, o1) :: t))
    (key : BodyOk M A c s h₀ L a1 a2 a3 a4 a5 o1 o2 o3 cnt tc) (h : BodyOk M A c s h₀ L a1 a2 a3 a4 a5 o1 o2 o3 cnt tc → wpAny M A c Q E s') : wpAny M A c Q E s' := h key
local macro_rules | `(tactic| bits_by_make) => `(tactic| first | with_reducible assumption | (with_reducible refine bits_one ?_; with_reducible assumption) | (with_reducible refine bits_mone ?_; with_reducible assumption))
local macro_rules | `(tactic| walk_at "MY mem") => `(tactic| (repeat (first | with_reducible exact List.mem_cons_self | with_reducible refine List.mem_cons_of_mem _ ?_)))
local macro_rules | `(tactic| k_ne) => `(tactic| ((try dsimp only); first | (with_reducible refine NeA.l ?_; with_reducible assumption) | (with_reducible refine NeA.r ?_; with_reducible assumption) | (with_reducible refine' NeL.l ?nh ?nm; (case nh => with_reducible assumption); (case nm => walk_at "MY mem")) | (with_reducible refine' NeL.r ?nh ?nm; (case nh => with_reducible assumption); (case nm => walk_at "MY mem")) | (refine neN ?_; (try dsimp only); omega)))
local macro_rules | `(tactic| walk_at "MY aparts") => `(tactic| ((repeat' (refine List.forall_mem_cons.mpr ⟨?_, ?_⟩)); (all_goals first | exact List.forall_mem_nil _ | k_ne)))
local macro_rules | `(tactic| walk_at "MY hide") => `(tactic| ((repeat ((with_reducible rename @Ne Addr _ _ ∧ _ => o1); (obtain ⟨x1, o2⟩ := o1); (have x2 := neA x1); (clear x1))); (repeat ((with_reducible rename @Ne Addr _ _ => x1); (have x2 := neA x1); (clear x1)))))
local macro_rules | `(tactic| walk_at "MY split") => `(tactic| (repeat (first | with_reducible exact Sp.nil | with_reducible apply Sp.take | with_reducible apply Sp.keep)))
local macro_rules | `(tactic| walk_at "MY pts") => `(tactic| (
    (rename Fr _ _ _ _ => F1)
    (rename News _ _ _ _ => N1)
    (rename TabsAre _ => hTT)
    (refine' con_use (points hTT (eu_of ?a1 ?a2 ?a3 ?a4 ?a5 ?a6)) ?k1 F1 ?k3 N1 ?k5 ?kA ?kF ?kK ?kh ?kd ?ku (Sp.both ?ks).1 (Sp.both ?ks).2 ?kap ?_)
    (case a1 => omega)
    (case a2 => omega)
    (case a3 => first | (with_reducible refine one_ne ?_; with_reducible assumption) | (with_reducible refine mone_ne ?_; with_reducible assumption))
    (case a4 => bits_by_make)
    (case a5 => bits_by_make)
    (case a6 => bits_by_make)
    (case k1 => k_asm)
    (case k3 => k_asm)
    (case k5 => k_asm)
    (case kA => exact rfl)
    (case kF => exact rfl)
    (case kK => exact rfl)
    (case kh => exact rfl)
    (case kd => exact Nat.le_of_ble_eq_true rfl)
    (case ku => exact Nat.le_of_ble_eq_true rfl)
    (case ks => first | ((walk_at "MY split"); done) | ((apply Sp.swap); (walk_at "MY split"); done))
    (case kap => walk_at "MY aparts")
    (clear F1 N1 hTT)))
local macro_rules | `(tactic| walk_at "noteFrame ref") => `(tactic| (k_here; (rename RaisedS _ _ _ _ _ _ _ _ _ => rsX); kts_caught; (rename Got _ _ _ _ _ => gG); (rename News _ _ _ _ => nN); (obtain ⟨od, nt, sl, nN3⟩ := got_in gG (by assumption) nN); clear nN))
local macro_rules | `(tactic| walk_at "compareOp NotEq int int") => `(tactic| ((with_reducible show wpAny _ _ (compareOp _ (Value.int (fsum _ _ _ _) _) _) _ _ _); (with_reducible refine ne_same fsum_side ?_)))
local macro_rules | `(tactic| walk_at "binaryOp FloorDiv int int") => `(tactic| ((with_reducible refine floordiv_s ?hz ?hb ?_); (case hz => with_reducible assumption); (case hb => with_reducible assumption)))
local macro_rules | `(tactic| walk_at "exec Raise some none") => `(tactic| ((with_reducible show wpAny _ _ (exec (Stmt.Raise (some (Expr.Name ("ZeroDivisionError" : Str) _)) none _) _) _ _ _); (with_reducible rename Fr _ _ _ _ => kF); k_dflt (refine' Raise_classM ?hh excClass_ZeroDivisionError PySem.F.excCall_ZeroDivisionError ?hs ?hx ?_; (case hh => rfl); (case hs => rw [isSubtype_type]; kernel_rfl); (case hx => (refine' name_B kF ?k1 ?k2 ?k3 ?k4 ?k5 ?_; (case k1 => k_asm); (case k2 => k_asm); (case k3 => k_is); (case k4 => boot_by_name); (case k5 => decide); exact ⟨rfl, rfl⟩))); intro h' e' x'))
local macro_rules | `(tactic| walk_at "eval Call") => `(tactic| ((with_reducible show wpAny _ _ (eval (Expr.Call (Expr.Name _ _) _ [] _) _) _ _ _); with_unfolding_all refine Call_ ?_))
local macro_rules | `(tactic| walk_at "call ref") => `(tactic| ((with_reducible show wpAny _ _ (call (Value.ref 70) _) _ _ _); (refine halt ?_)))
local macro_rules | `(tactic| walk_at "call ref") => `(tactic| ((with_reducible show wpAny _ _ (call (Value.ref 63) _) _ _ _); (refine halt ?_)))
local macro_rules | `(tactic| walk_at "execs cons") => `(tactic| ((with_reducible show wpAny _ _ (execs (Stmt.Assign [Expr.Name ("floors" : Str) _] _ _ :: _) _) _ _ _); (refine halt ?_)))
local macro_rules | `(tactic| walk_at "eval IfExp") => `(tactic| ((fail_if_success (with_reducible show wpAny _ _ _ (fun v s' => CntP _ _ _ _ _ v s') _ _)); (refine halt ?_)))
local macro_rules | `(tactic| walk_at "call ref") => `(tactic| ((with_reducible show wpAny _ _ (call (Value.ref 77) _) _ _ _); k_dflt (refine wpAny_call ?_; (refine' code_defSC ?k1 ?k2 ?k3 ?k4 ?k5 ?kA ?kf ?kk ?k6 ?k7 ?k8 ?k9 ?kB ?_ ?c2 ?c3 ?c4 ?c5; (case kA => exact rfl); (case kf => exact rfl); (case kk => exact rfl); (case k2 => k_asm); (case k1 => k_asm); (case k3 => k_asm); (case k4 => k_asm); (case k5 => k_asm); (case k6 => k_is); (case k7 => k_is); (case k8 => k_room); (case k9 => first | exact BindsTo.of_eq rfl | exact binds_K (by k_in) rfl (by k_is) rfl rfl rfl); (case kB => exact locs rfl); (case c2 => exact rfl); (case c3 => exact rfl); (case c4 => exact rfl); (case c5 => decide); k_whole; intro g' L' h' FG' F' N' B' X' T' D'; (try dsimp only); (try k_lift B'); (try k_fold)))))
local macro_rules | `(tactic| walk_at "MY any") => `(tactic| (
  unfold Halt
  rename Fr _ _ _ _ => F1
  rename News _ _ _ _ => N1
  rename IntsAre _ _ => hI
  rename ¬ _ < ((List.length _ : Nat) : Int) => hlen
  rename PyData.layable0 (PyData.list _) = true => hlay
  rename Heap.IsList (ghostOf _ _) _ _ => hL
  refine' con_useP (small := []) (law_any hI (by omega) (fun x hx => intBits_le_of_item hx hlay) (by omega) (by omega) (by omega) (by omega)) ?k1 F1 ?k3 N1 ?k5 ?kA ?kF ?kK ?kh ?kd ?ku (fun _ h => nomatch h) (fun _ h => h) (fun _ _ _ h => nomatch h) ?kP ?_
  (case k1 => k_asm)
  (case k3 => k_asm)
  (case k5 => k_asm)
  (case kA => exact rfl); (case kF => exact rfl); (case kK => exact rfl); (case kh => exact rfl)
  (case kd => exact Nat.le_of_ble_eq_true rfl)
  (case ku => exact Nat.le_of_ble_eq_true rfl)
  (case kP => 
    intro g hg
    obtain ⟨o, ho, hr⟩ := isList_keeps hL (Fr.keep F1)
    exact ⟨o, hg _ _ ho (fun _ h => nomatch h), hr⟩)
  clear F1 N1))

local macro_rules | `(tactic| walk_at "MY body") => `(tactic| (
    (rename Fr _ _ _ _ => F1)
    (rename News _ _ _ _ => N1)
    (rename TabsAre _ => hTT)
    (rename BodyOk _ _ _ _ _ _ _ _ _ _ _ _ _ _ _ _ => key)
    (refine' key ?ks ?kt ?k4 ?k5 ?ka ?kb hTT ?km F1 N1 ?kap ?_)
    (case ks => first | ((walk_at "MY split"); done) | ((apply Sp.swap); (walk_at "MY split"); done))
    (case kt => walk_at "MY split")
    (case k4 => assumption)
    (case k5 => assumption)
    (case ka => first | exact .inl rfl | exact .inr rfl)
    (case kb => first | exact .inl rfl | exact .inr rfl)
    (case km => first | exact rfl | ((try dsimp only); k_is))
    (case kap => walk_at "MY aparts")
    (clear F1 N1 hTT)))
set_option maxRecDepth 100000 in
set_option maxHeartbeats 20000000 in
theorem law_holds : PySem.Challenge.rw_kn0018_01.Holds := hd (by
  k_go0
  (all_goals try k_fold)
  k_steps
  walk_at "MY any"
  rintro rv small' h1 tk1 F1 N1 hne1 ⟨⟨v1, t1, rfl, bv1, bv2⟩, rfl⟩
  rw [List.nil_append] at N1
  clear hne1
  replace bv2 : Builtin.Int.intBits v1 ≤ 6001 := bv2
  have bv0 : Builtin.Int.intBits v1 ≤ 9000 := Nat.le_trans bv2 (by decide)
  clear bv1
  (try dsimp only)
  k_steps
  walk_at "MY any"
  rintro rv small' h2 tk2 F1 N1 hne1 ⟨⟨v2, t2, rfl, bv3, bv4⟩, rfl⟩
  rw [List.nil_append] at N1
  clear hne1 bv4
  (try dsimp only)
  k_steps
  walk_at "MY any"
  rintro rv small' h3 tk3 F1 N1 hne1 ⟨⟨v3, t3, rfl, bv5, bv6⟩, rfl⟩
  rw [List.nil_append] at N1
  clear hne1 bv6
  (try dsimp only)
  k_steps
  unfold Halt
  rename Fr _ _ _ _ => F1
  rename News _ _ _ _ => N1
  refine cnt_join F1 N1 ?_ ?_
  · k_steps
    all_goals (rename Fr _ _ _ _ => F9; rename News _ _ _ _ => N9; refine ⟨_, _, _, _, rfl, ?_, ?_, rfl, F9, N9⟩)
    all_goals first | exact cnt_lo | exact cnt_hi | decide
  clear F1 N1
  intro c tc h4 tk4 hc2 hc61 F1 N1
  (try dsimp only)
  k_steps
  unfold Halt
  have b1 : Builtin.Int.intBits v1 ≤ 7000 := Nat.le_trans bv2 (by decide)
  have b2 : Builtin.Int.intBits v2 ≤ 13000 := Nat.le_trans bv3 (by decide)
  have b3 : Builtin.Int.intBits v3 ≤ 13000 := Nat.le_trans bv5 (by decide)
  have c0 : 0 < c := by omega
  rename Fr _ _ _ _ => F1
  rename News _ _ _ _ => N1
  refine use_body (s := ?zs) (cnt := c) (tc := tc) N1 ?key ?go
  case zs => assumption
  case key =>
    clear F1 N1
    intro Q E sd tn ks kt o4 o5 m small news R rest h tk sp1 sp2 d4 d5 hs1 ht1 hTT hm F N0 hap0 hQ
    have N : News _ _ _ ((_, o5) :: (_, o4) :: (_, _) :: (_, _) :: (_, _) :: (rest ++ small)) := fun q hq => (List.mem_append.mp (show q ∈ ([_, _, _, _, _] ++ rest) ++ small from hq)).elim (fun hq => N0 q (sp1.both.2 q ((List.mem_append.mp hq).elim (sp2.both.1 q) (sp2.both.2 q)))) fun hq => N0 q (sp1.both.1 q hq)
    have hap : ∀ q ∈ [_, _, _, _, _] ++ rest, ∀ z ∈ small, q.1 ≠ z.1 := fun q hq => hap0 q ((List.mem_append.mp hq).elim (sp2.both.1 q) (sp2.both.2 q))
    clear N0 hap0 sp1 sp2
    have x1 := hs1.lo
    have x2 := hs1.hi
    have x3 := ht1.lo
    have x4 := ht1.hi
    have x5 := ht1.ne ‹v1 ≠ 0›
    have x6 := ht1.bits bv0
    rw [map_eq (m := m) (ps := [(Str.ofString "count", .int c tc)]) (List.forall_mem_cons.mpr ⟨hm, List.forall_mem_nil _⟩)] at F
    simp only [kstB] at F
    refine wpAny_execs_cons ?_
    k_steps
    unfold Halt
    rename Fr _ _ _ _ => F2
    rename News _ _ _ _ => N2
    refine con_use (points hTT (eu_of hc2 hc61 x5 (hs1.bits b2) (hs1.bits b3) (ht1.bits b1))) (by k_asm) F2 (by k_asm) N2 (by k_asm) rfl rfl rfl rfl (Nat.le_of_ble_eq_true rfl) (Nat.le_of_ble_eq_true rfl)
      (rest := (_, _) :: (_, o5) :: (_, o4) :: (_, _) :: (_, _) :: (_, _) :: rest)
      (fun q hq => .tail _ (.tail _ (.tail _ (.tail _ (.tail _ (.tail _ (List.mem_append_right rest hq)))))))
      (fun q hq => List.mem_append_left small hq)
      (List.forall_mem_cons.mpr ⟨lst_apart N2 hTT (fun q hq => .tail _ (.tail _ (.tail _ (.tail _ (.tail _ (.tail _ (List.mem_append_right rest hq))))))), hap⟩) ?_
    clear F2 N2
    rintro rv small' h5 tk5 F5 N5 hne5 ⟨⟨k5, rfl⟩, hT5⟩
    replace hT5 := hT5 c0
    replace N5 := news_comm N5
    simp only [List.cons_append] at N5
    (try dsimp only)
    k_steps
    rename Fr _ _ _ _ => F9
    rename News _ _ _ _ => N9
    replace N9 : News _ _ _ (small' ++ ((_, o5) :: (_, o4) :: (_, _) :: (_, _) :: (_, _) :: rest)) := news_comm fun q hq => N9 q (.tail _ hq)
    obtain ⟨c1, oc1, c2, oc2, vs1, t1, vs2, t2, y1, y2, y3, y4, y5, y6, y7, y8, y9, y0⟩ := pts_open hT5 N9 (fun q hq z hz => hne5 q hq z (.tail _ hz))
    exact hQ _ c1 oc1 c2 oc2 vs1 t1 vs2 t2 _ _ y1 y2 y3 y4 y5 y6 y7 y8 y9 y0 (fr_back F9 hm)
  case go =>
    intro key
    have hTT : TabsAre [(30, tabObj #[]), (37, tabObj #[])] := ⟨_, _, rfl, .inl rfl, .inl rfl, List.forall_mem_cons.mpr ⟨List.forall_mem_cons.mpr ⟨by decide, List.forall_mem_nil _⟩, List.forall_mem_nil _⟩⟩
    walk_at "MY body"
    intro D c1 oc1 c2 oc2 vs1 t1 vs2 t2 h6 tk6 hTT N1 g1 g2 g3 g4 d1 e1 d2 e2 F1
    (try dsimp only)
    k_steps
    unfold Halt
    walk_at "MY hide"
    walk_at "MY body"
    intro D c1 oc1 c2 oc2 vs1 t1 vs2 t2 h6 tk6 hTT N1 g1 g2 g3 g4 d1 e1 d2 e2 F1
    (try dsimp only)
    k_steps
    unfold Halt
    walk_at "MY hide"
    walk_at "MY body"
    intro D c1 oc1 c2 oc2 vs1 t1 vs2 t2 h6 tk6 hTT N1 g1 g2 g3 g4 d1 e1 d2 e2 F1
    (try dsimp only)
    k_steps
    unfold Halt
    walk_at "MY hide"
    walk_at "MY body"
    intro D c1 oc1 c2 oc2 vs1 t1 vs2 t2 h6 tk6 hTT N1 g1 g2 g3 g4 d1 e1 d2 e2 F1
    (try dsimp only)
    k_steps


    done)
end Mine

theorem PySem.Challenge.cw_kn0018_01_holds : PySem.Challenge.rw_kn0018_01.Holds :=
  Mine.law_holds
