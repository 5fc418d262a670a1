import PyProof.Rows.All
import Wide.All
import OpenK.AllK
import Wide.FinOn
import PySem.Challenge.RW_bf6007_01
open PySem PySem.W PySem.Spec PySem.Calls PyProof.Rows PyProof.V
set_option Elab.async false
namespace Mine
open PySem.Float64 in
theorem half_q {n d p : Nat} (hd : 0 < d) (hp : d < 2 ^ p) : halfEven (n * 2 ^ p) d / 2 ^ p = n / d := by
  have hP : 0 < 2 ^ p := Nat.two_pow_pos p
  generalize 2 ^ p = P at *
  have e1 : n = d * (n / d) + n % d := (Nat.div_add_mod n d).symm
  have hr : n % d < d := Nat.mod_lt _ hd
  generalize n / d = q at *
  generalize n % d = r at *
  subst e1
  have e2 : (d * q + r) * P / d = q * P + r * P / d := by
    rw [Nat.add_mul, Nat.mul_assoc, Nat.mul_add_div hd]
  have h3 : r * P / d + 1 < P := by
    have : r * P / d < P - 1 := by
      rw [Nat.div_lt_iff_lt_mul hd]
      have h4 : r * P ≤ (d - 1) * P := Nat.mul_le_mul_right _ (by omega)
      have h5 : (d - 1) * P = d * P - P := by rw [Nat.sub_mul, Nat.one_mul]
      have h6 : (P - 1) * d = d * P - d := by rw [Nat.sub_mul, Nat.one_mul, Nat.mul_comm]
      have h7 : P ≤ d * P := Nat.le_mul_of_pos_left _ hd
      omega
    omega
  have h8 : halfEven ((d * q + r) * P) d = q * P + r * P / d ∨ halfEven ((d * q + r) * P) d = q * P + r * P / d + 1 := by
    unfold halfEven
    simp only [e2]
    split <;> simp
  have h9 : ∀ x, x < P → (q * P + x) / P = q := by
    intro x hx
    rw [Nat.add_comm, Nat.add_mul_div_right _ _ hP, Nat.div_eq_of_lt hx, Nat.zero_add]
  rcases h8 with h | h <;> rw [h]
  · exact h9 _ (by omega)
  · rw [Nat.add_assoc]; exact h9 _ (by omega)

open PySem.Float64 in
theorem half_ge {N d b : Nat} (hd : 0 < d) (h : b * d ≤ N) : b ≤ halfEven N d := by
  have : b ≤ N / d := (Nat.le_div_iff_mul_le hd).mpr h
  unfold halfEven
  simp only
  split <;> omega
open PySem.Float64 in
theorem half_le {N d b : Nat} (hd : 0 < d) (h : N < b * d) : halfEven N d ≤ b := by
  have : N / d < b := (Nat.div_lt_iff_lt_mul hd).mpr h
  unfold halfEven
  simp only
  split <;> omega

open PySem.Float64 in
theorem mag_small {n d : Nat} (hn : 0 < n) (hn2 : n < 2 ^ 20) (hd : 0 < d) (hd2 : d < 2 ^ 20) :
    ∃ p, 20 ≤ p ∧ p ≤ 100 ∧ roundMag n d = (1074 - p) * 2 ^ 52 + halfEven (n * 2 ^ p) d ∧ 2 ^ 52 * d ≤ n * 2 ^ p ∧ n * 2 ^ p < 2 ^ 53 * d := by
  have a1 : 2 ^ n.log2 ≤ n := Nat.log2_self_le (by omega)
  have a2 : n < 2 ^ (n.log2 + 1) := Nat.lt_log2_self
  have b1 : 2 ^ d.log2 ≤ d := Nat.log2_self_le (by omega)
  have b2 : d < 2 ^ (d.log2 + 1) := Nat.lt_log2_self
  have a3 : n.log2 < 20 := (Nat.log2_lt (by omega)).mpr hn2
  have b3 : d.log2 < 20 := (Nat.log2_lt (by omega)).mpr hd2
  have main : ∀ p : Nat, 20 ≤ p → p ≤ 100 → 2 ^ 52 * d ≤ n * 2 ^ p → n * 2 ^ p < 2 ^ 53 * d →
      min infMag (((-(p : Int)) + 1074).toNat * 2 ^ 52 + halfEven (n * 2 ^ p) d) = (1074 - p) * 2 ^ 52 + halfEven (n * 2 ^ p) d := by
    intro p h1 h2 _ h4
    have h5 := half_le (b := 2 ^ 53) hd h4
    have e : ((-(p : Int)) + 1074).toNat = 1074 - p := by omega
    rw [e]
    apply Nat.min_eq_right
    have h6 : (1074 - p) * 2 ^ 52 ≤ 1054 * 2 ^ 52 := Nat.mul_le_mul_right _ (by omega)
    exact Nat.le_trans (Nat.add_le_add h6 h5) (by decide)
  have low : ∀ p, n.log2 + p = d.log2 + 53 → 2 ^ 52 * d ≤ n * 2 ^ p := by
    intro p hp
    have : 2 ^ n.log2 * 2 ^ p ≤ n * 2 ^ p := Nat.mul_le_mul_right _ a1
    rw [← Nat.pow_add, hp, show d.log2 + 53 = 52 + (d.log2 + 1) from by omega, Nat.pow_add] at this
    have h2 : 2 ^ 52 * d ≤ 2 ^ 52 * 2 ^ (d.log2 + 1) := Nat.mul_le_mul_left _ (by omega)
    omega
  have high : ∀ p, n.log2 + p = d.log2 + 52 → n * 2 ^ p < 2 ^ 53 * d := by
    intro p hp
    have : n * 2 ^ p < 2 ^ (n.log2 + 1) * 2 ^ p := Nat.mul_lt_mul_of_pos_right a2 (Nat.two_pow_pos _)
    rw [← Nat.pow_add, show n.log2 + 1 + p = 53 + d.log2 from by omega, Nat.pow_add] at this
    have h2 : 2 ^ 53 * 2 ^ d.log2 ≤ 2 ^ 53 * d := Nat.mul_le_mul_left _ b1
    omega
  have fin : ∀ (p : Nat) (x : Int), x = -(p : Int) → 20 ≤ p → p ≤ 100 → 2 ^ 52 * d ≤ n * 2 ^ p → n * 2 ^ p < 2 ^ 53 * d →
      (min infMag (((max x (-1074)) + 1074).toNat * 2 ^ 52 + halfEven (shift n d (-(max x (-1074)))).1 (shift n d (-(max x (-1074)))).2)) = (1074 - p) * 2 ^ 52 + halfEven (n * 2 ^ p) d := by
    intro p x hx h1 h2 h3 h4
    have e1 : max x (-1074) = -(p : Int) := by omega
    rw [e1]
    have e2 : shift n d (-(-(p : Int))) = (n * 2 ^ p, d) := by
      unfold shift
      rw [if_pos (by omega)]
      have : (-(-(p : Int))).toNat = p := by omega
      rw [this]
    rw [e2]
    exact main p h1 h2 h3 h4
  unfold roundMag
  rw [if_neg (by simp; omega)]
  simp only
  by_cases hl : d.log2 ≥ n.log2
  · have es : shift n d (-((n.log2 : Int) - (d.log2 : Int))) = (n * 2 ^ (d.log2 - n.log2), d) := by
      unfold shift
      rw [if_pos (by omega)]
      have : (-((n.log2 : Int) - (d.log2 : Int))).toNat = d.log2 - n.log2 := by omega
      rw [this]
    rw [es]
    simp only
    by_cases hab : n * 2 ^ (d.log2 - n.log2) ≥ d
    · rw [if_pos hab]
      have lo : 2 ^ 52 * d ≤ n * 2 ^ (52 + (d.log2 - n.log2)) := by
        rw [Nat.add_comm, Nat.pow_add, ← Nat.mul_assoc, Nat.mul_comm]
        exact Nat.mul_le_mul_right _ hab
      exact ⟨52 + (d.log2 - n.log2), by omega, by omega, fin _ _ (by omega) (by omega) (by omega) lo (high _ (by omega)), lo, high _ (by omega)⟩
    · rw [if_neg hab]
      have hi : n * 2 ^ (53 + (d.log2 - n.log2)) < 2 ^ 53 * d := by
        rw [Nat.add_comm 53, Nat.pow_add, ← Nat.mul_assoc, Nat.mul_comm (2 ^ 53)]
        exact Nat.mul_lt_mul_of_pos_right (by omega) (Nat.two_pow_pos _)
      exact ⟨53 + (d.log2 - n.log2), by omega, by omega, fin _ _ (by omega) (by omega) (by omega) (low _ (by omega)) hi, low _ (by omega), hi⟩
  · have es : shift n d (-((n.log2 : Int) - (d.log2 : Int))) = (n, d * 2 ^ (n.log2 - d.log2)) := by
      unfold shift
      rw [if_neg (by omega)]
      have : (-(-((n.log2 : Int) - (d.log2 : Int)))).toNat = n.log2 - d.log2 := by omega
      rw [this]
    rw [es]
    simp only
    by_cases hab : n ≥ d * 2 ^ (n.log2 - d.log2)
    · rw [if_pos hab]
      have lo : 2 ^ 52 * d ≤ n * 2 ^ (52 - (n.log2 - d.log2)) := by
        have : d * 2 ^ (n.log2 - d.log2) * 2 ^ (52 - (n.log2 - d.log2)) ≤ n * 2 ^ (52 - (n.log2 - d.log2)) := Nat.mul_le_mul_right _ hab
        rw [Nat.mul_assoc, ← Nat.pow_add, show n.log2 - d.log2 + (52 - (n.log2 - d.log2)) = 52 from by omega] at this
        omega
      exact ⟨52 - (n.log2 - d.log2), by omega, by omega, fin _ _ (by omega) (by omega) (by omega) lo (high _ (by omega)), lo, high _ (by omega)⟩
    · rw [if_neg hab]
      have hi : n * 2 ^ (53 - (n.log2 - d.log2)) < 2 ^ 53 * d := by
        have : n * 2 ^ (53 - (n.log2 - d.log2)) < d * 2 ^ (n.log2 - d.log2) * 2 ^ (53 - (n.log2 - d.log2)) := Nat.mul_lt_mul_of_pos_right (by omega) (Nat.two_pow_pos _)
        rw [Nat.mul_assoc, ← Nat.pow_add, show n.log2 - d.log2 + (53 - (n.log2 - d.log2)) = 53 from by omega] at this
        omega
      exact ⟨53 - (n.log2 - d.log2), by omega, by omega, fin _ _ (by omega) (by omega) (by omega) (low _ (by omega)) hi, low _ (by omega), hi⟩

open PySem.Float64 in
theorem decode_pack (neg : Bool) {k t : Nat} (hk : k < 2046) (h1 : 2 ^ 52 ≤ t) (h2 : t < 2 ^ 53) : decode (pack neg (k * 2 ^ 52 + t)) = .fin neg t ((k : Int) + 1 - 1075) := by
  have e : (pack neg (k * 2 ^ 52 + t)).toNat = (if neg then 2 ^ 63 else 0) + (k * 2 ^ 52 + t) := by
    unfold pack
    rw [Nat.toUInt64, UInt64.toNat_ofNat']
    apply Nat.mod_eq_of_lt
    split <;> omega
  unfold decode
  rw [e]
  have e1 : ((if neg then 2 ^ 63 else 0) + (k * 2 ^ 52 + t)) / 2 ^ 63 = (if neg then 1 else 0) := by split <;> omega
  have e2 : ((if neg then 2 ^ 63 else 0) + (k * 2 ^ 52 + t)) / 2 ^ 52 % 2048 = k + 1 := by split <;> omega
  have e3 : ((if neg then 2 ^ 63 else 0) + (k * 2 ^ 52 + t)) % 2 ^ 52 = t - 2 ^ 52 := by split <;> omega
  simp only [e1, e2, e3]
  have x1 : (k + 1 == 2047) = false := by simp; omega
  have x2 : (k + 1 == 0) = false := by simp
  simp only [x1, x2]
  have x3 : ((if neg = true then 1 else 0) == 1) = neg := by cases neg <;> rfl
  have x4 : 2 ^ 52 + (t - 2 ^ 52) = t := by omega
  rw [x4, x3]
  simp

open PySem.Float64 in
theorem floor_fin (neg : Bool) (m p : Nat) (hp : 0 < p) : floorOf neg m (-(p : Int)) = (sgn neg m).fdiv (2 ^ p) := by
  unfold floorOf
  have h1 : ¬ (-(p : Int) ≥ 0) := by omega
  rw [if_neg h1, show (-(-(p : Int))).toNat = p from by omega]
open PySem.Float64 in
theorem trunc_fin (neg : Bool) (m p : Nat) (hp : 0 < p) : truncOf neg m (-(p : Int)) = sgn neg (m / 2 ^ p) := by
  have e : ((m : Int)).fdiv (2 ^ p) = ((m / 2 ^ p : Nat) : Int) := by
    rw [Int.fdiv_eq_ediv_of_nonneg _ (Int.pow_nonneg (by decide))]
    simp
  unfold truncOf ceilOf
  rw [floor_fin _ _ _ hp, floor_fin _ _ _ hp]
  cases neg
  · simpa [sgn] using e
  · simpa [sgn] using e

open PySem.Float64 in
theorem toInt_zero (neg : Bool) (d : Nat) : PySem.Flt.toInt truncOf (ofFrac neg 0 d) = 0 := by
  have h0 : roundMag 0 d = 0 := by unfold roundMag; rfl
  have h1 : (pack neg 0).toNat = if neg then 2 ^ 63 else 0 := by cases neg <;> rfl
  have h9 : decode (pack neg 0) = .fin neg 0 (-1074) := by
    unfold decode
    rw [h1]
    cases neg <;> rfl
  unfold ofFrac PySem.Flt.toInt
  rw [h0, h9]
  have h2 : truncOf neg 0 (-((1074 : Nat) : Int)) = sgn neg (0 / 2 ^ 1074) := trunc_fin neg 0 1074 (by decide)
  rw [Nat.zero_div] at h2
  refine Eq.trans h2 ?_
  cases neg <;> rfl

theorem half_pow (A r : Nat) : A / 2 ^ r = A * 2 / 2 ^ (r + 1) := by
  rw [Nat.pow_succ, Nat.mul_div_mul_right _ _ (by decide)]

open PySem.Float64 in
theorem dec_lo (neg : Bool) {p t : Nat} (h1 : 20 ≤ p) (h2 : p ≤ 100) (g1 : 2 ^ 52 ≤ t) (ht : t < 2 ^ 53) :
    decode (pack neg ((1074 - p) * 2 ^ 52 + t)) = .fin neg t (-(p : Int)) := by
  have e9 : (((1074 - p : Nat) : Int)) + 1 - 1075 = -(p : Int) := by omega
  have h := decode_pack neg (k := 1074 - p) (by omega) g1 ht
  rwa [e9] at h
open PySem.Float64 in
theorem dec_hi (neg : Bool) {p k : Nat} (h1 : 20 ≤ p) (h2 : k + p = 1075) :
    decode (pack neg (k * 2 ^ 52 + 2 ^ 52)) = .fin neg (2 ^ 52) (-((p - 1 : Nat) : Int)) := by
  have e9 : ((k : Int)) + 1 - 1075 = -((p - 1 : Nat) : Int) := by omega
  have h := decode_pack neg (k := k) (t := 2 ^ 52) (by omega) (Nat.le_refl _) (Nat.pow_lt_pow_right (by decide) (by decide))
  rwa [e9] at h
open PySem.Float64 in
theorem pk_lo (neg : Bool) {p t : Nat} (h1 : 20 ≤ p) (h2 : p ≤ 100) (g1 : 2 ^ 52 ≤ t) (ht : t < 2 ^ 53) :
    PySem.Flt.toInt truncOf (pack neg ((1074 - p) * 2 ^ 52 + t)) = sgn neg (t / 2 ^ p) :=
  (PySem.Flt.toInt_fin (dec_lo neg h1 h2 g1 ht)).trans (trunc_fin _ _ _ (by omega))
open PySem.Float64 in
theorem pk_hi (neg : Bool) {p : Nat} (h1 : 20 ≤ p) (h2 : p ≤ 100) :
    PySem.Flt.toInt truncOf (pack neg ((1074 - p) * 2 ^ 52 + 2 ^ 53)) = sgn neg (2 ^ 53 / 2 ^ p) := by
  have e8 : (1074 - p) * 2 ^ 52 + 2 ^ 53 = (1075 - p) * 2 ^ 52 + 2 ^ 52 := by omega
  have hh := (PySem.Flt.toInt_fin (f := truncOf) (dec_hi neg (k := 1075 - p) h1 (by omega))).trans (trunc_fin _ _ _ (by omega))
  have e7 := half_pow (2 ^ 52) (p - 1)
  have e6 : p - 1 + 1 = p := by omega
  rw [e6] at e7
  rw [e7] at hh
  rw [e8]
  exact hh
open PySem.Float64 in
theorem toInt_pack (neg : Bool) {p t : Nat} (h1 : 20 ≤ p) (h2 : p ≤ 100) (g1 : 2 ^ 52 ≤ t) (g2 : t ≤ 2 ^ 53) :
    PySem.Flt.toInt truncOf (pack neg ((1074 - p) * 2 ^ 52 + t)) = sgn neg (t / 2 ^ p) := by
  rcases Nat.lt_or_ge t (2 ^ 53) with ht | ht
  · exact pk_lo neg h1 h2 g1 ht
  · have e6 : t = 2 ^ 53 := Nat.le_antisymm g2 ht
    subst e6
    exact pk_hi neg h1 h2

open PySem.Float64 in
theorem toInt_quot (neg : Bool) {n d : Nat} (hn2 : n < 2 ^ 20) (hd : 0 < d) (hd2 : d < 2 ^ 20) : PySem.Flt.toInt truncOf (ofFrac neg n d) = sgn neg (n / d) := by
  rcases Nat.eq_zero_or_pos n with h0 | hn
  · subst h0
    rw [toInt_zero, Nat.zero_div]
    cases neg <;> rfl
  · obtain ⟨p, h1, h2, e, lo, hi⟩ := mag_small hn hn2 hd hd2
    have g1 := half_ge hd lo
    have g2 := half_le hd hi
    have g3 := half_q (n := n) (p := p) hd (Nat.lt_of_lt_of_le hd2 (Nat.pow_le_pow_right (by decide) h1))
    unfold ofFrac
    rw [e, toInt_pack neg h1 h2 g1 g2, g3]

open PySem.Float64 in
theorem fin_quot (neg : Bool) {n d : Nat} (hn2 : n < 2 ^ 20) (hd : 0 < d) (hd2 : d < 2 ^ 20) : ∃ m e, decode (ofFrac neg n d) = .fin neg m e := by
  rcases Nat.eq_zero_or_pos n with h0 | hn
  · subst h0
    have h0 : roundMag 0 d = 0 := by unfold roundMag; rfl
    have h1 : (pack neg 0).toNat = if neg then 2 ^ 63 else 0 := by cases neg <;> rfl
    unfold ofFrac
    rw [h0]
    refine ⟨0, -1074, ?_⟩
    unfold decode
    rw [h1]
    cases neg <;> rfl
  · obtain ⟨p, h1, h2, e, lo, hi⟩ := mag_small hn hn2 hd hd2
    have g1 := half_ge hd lo
    have g2 := half_le hd hi
    unfold ofFrac
    rw [e]
    rcases Nat.lt_or_ge (halfEven (n * 2 ^ p) d) (2 ^ 53) with ht | ht
    · exact ⟨_, _, dec_lo neg h1 h2 g1 ht⟩
    · rw [Nat.le_antisymm g2 ht]
      have e8 : (1074 - p) * 2 ^ 52 + 2 ^ 53 = (1075 - p) * 2 ^ 52 + 2 ^ 52 := by omega
      rw [e8]
      exact ⟨_, _, dec_hi neg (k := 1075 - p) h1 (by omega)⟩

theorem toInt_div {a b : Int} (ha : a.natAbs < 2 ^ 20) (hb : 0 < b) (hb2 : b < 2 ^ 20) :
    PySem.Flt.toInt Float64.truncOf (Float64.ofFrac (decide (a < 0) != decide (b < 0)) a.natAbs b.natAbs) = a.tdiv b := by
  rw [toInt_quot _ ha (by omega) (by omega)]
  have : decide (b < 0) = false := by simp; omega
  rw [this]
  unfold Float64.sgn
  obtain ⟨k, rfl⟩ : ∃ k : Nat, b = k := ⟨b.toNat, by omega⟩
  by_cases h : a < 0
  · obtain ⟨j, rfl⟩ : ∃ j : Nat, a = -(j : Int) := ⟨(-a).toNat, by omega⟩
    have h2 : decide (-(j : Int) < 0) = true := by simpa using h
    rw [h2, Int.neg_tdiv]
    simp [Int.tdiv]
  · obtain ⟨j, rfl⟩ : ∃ j : Nat, a = (j : Int) := ⟨a.toNat, by omega⟩
    have h2 : decide ((j : Int) < 0) = false := by simp
    rw [h2]
    simp [Int.tdiv]

section
variable {prog : Program} {w : World} {A : Around} {E : Value → Shared → Prop} {s : Shared} {t u : Tok} {Q : Value → Shared → Prop}
theorem w_div {a b : Int} (hA : A.handled = none) (ha : a.natAbs < 2 ^ 20) (hb : 0 < b)
    (h : Q (.float (Float64.ofFrac (decide (a < 0) != decide (b < 0)) a.natAbs b.natAbs) s.toks) { s with toks := s.toks + 1 }) : wpAny (model prog w) A (binaryOp .Div (.int a t) (.int b u)) Q E s :=
  PySem.Flt.div_ii_fits hA (Nat.lt_trans ha (Nat.pow_lt_pow_right (by decide) (by decide))) (fun h0 => absurd h0 (by omega)) (fun _ _ => h)
theorem w_trunc {a b : Int} (hA : A.handled = none) (ha : a.natAbs < 2 ^ 20) (hb : 0 < b) (hb2 : b < 2 ^ 20)
    (h : Q (.int (a.tdiv b) s.toks) { s with toks := s.toks + 1 }) : wpAny (model prog w) A (call (.builtin "math.trunc") [.float (Float64.ofFrac (decide (a < 0) != decide (b < 0)) a.natAbs b.natAbs) t]) Q E s := by
  obtain ⟨m, e, hd⟩ := fin_quot (decide (a < 0) != decide (b < 0)) (n := a.natAbs) (d := b.natAbs) ha (by omega) (by omega)
  refine PySem.Flt.call_trunc_float hA (fun hn => ?_) (fun hn => ?_) fun _ => ?_
  · unfold Float64.isNaN at hn
    rw [hd] at hn
    exact absurd hn Bool.false_ne_true
  · unfold Float64.isInf at hn
    rw [hd] at hn
    exact absurd hn Bool.false_ne_true
  · rw [toInt_div ha hb hb2]
    exact h
/-- the quotient of an int that is 0 or more -/
theorem w_truncA {a b : Int} (hA : A.handled = none) (h0 : 0 ≤ a) (ha : a < 2 ^ 20) (hb : 0 < b) (hb2 : b < 2 ^ 20)
    (h : ∀ r : Int, b * r ≤ a → a < b * r + b → Q (.int r s.toks) { s with toks := s.toks + 1 }) : wpAny (model prog w) A (call (.builtin "math.trunc") [.float (Float64.ofFrac (decide (a < 0) != decide (b < 0)) a.natAbs b.natAbs) t]) Q E s := by
  have e : a.tdiv b = a / b := Int.tdiv_eq_ediv_of_nonneg h0
  have e1 : b * (a / b) + a % b = a := Int.mul_ediv_add_emod a b
  have e2 : a % b < b := Int.emod_lt_of_pos a hb
  have e3 : 0 ≤ a % b := Int.emod_nonneg a (by omega)
  exact w_trunc hA (by omega) hb hb2 (by rw [e]; exact h _ (by omega) (by omega))
/-- a quotient that lies between -1 and 1 -/
theorem w_truncB {a b : Int} (hA : A.handled = none) (h0 : -b < a) (ha : a < b) (hb : 0 < b) (hb2 : b < 2 ^ 20)
    (h : Q (.int 0 s.toks) { s with toks := s.toks + 1 }) : wpAny (model prog w) A (call (.builtin "math.trunc") [.float (Float64.ofFrac (decide (a < 0) != decide (b < 0)) a.natAbs b.natAbs) t]) Q E s := by
  have e : a.tdiv b = 0 := by
    rcases Int.lt_or_le a 0 with h1 | h1
    · have e1 : (-a).tdiv b = 0 := Int.tdiv_eq_zero_of_lt (by omega) (by omega)
      rw [Int.neg_tdiv] at e1
      omega
    · exact Int.tdiv_eq_zero_of_lt h1 ha
  exact w_trunc hA (by omega) hb hb2 (by rw [e]; exact h)
/-- a quotient by an open divisor -/
theorem w_truncC {a b : Int} (hA : A.handled = none) (h0 : 0 ≤ a) (ha : a < 2 ^ 20) (hb : 0 < b) (hb2 : b < 2 ^ 20)
    (h : ∀ r : Int, 0 ≤ r → (a < b → r = 0) → (b ≤ a → a < 2 * b → r = 1) → Q (.int r s.toks) { s with toks := s.toks + 1 }) : wpAny (model prog w) A (call (.builtin "math.trunc") [.float (Float64.ofFrac (decide (a < 0) != decide (b < 0)) a.natAbs b.natAbs) t]) Q E s := by
  have e : a.tdiv b = a / b := Int.tdiv_eq_ediv_of_nonneg h0
  refine w_trunc hA (by omega) hb hb2 ?_
  rw [e]
  refine h _ (Int.ediv_nonneg h0 (by omega)) (fun h1 => Int.ediv_eq_zero_of_lt h0 h1) fun h1 h2 => ?_
  have e1 : a = (a - b) + 1 * b := by omega
  rw [e1, Int.add_mul_ediv_right _ _ (by omega), Int.ediv_eq_zero_of_lt (by omega) (by omega)]
  rfl
theorem w_mul01 {a b : Int} (h0 : 0 ≤ a) (h1 : a ≤ 1) (h : ∀ r : Int, (a = 0 → r = 0) → (a = 1 → r = b) → Q (.int r s.toks) { s with toks := s.toks + 1 }) : wpAny (model prog w) A (binaryOp .Mult (.int a t) (.int b u)) Q E s := by
  refine mul_int ?_
  exact h _ (fun e => by rw [e, Int.zero_mul]) (fun e => by rw [e, Int.one_mul])
end

/-- the moon's place ahead of the two exceptions -/
def wI (y : Int) : Int := (y / 100 - y / 100 / 4 - y / 100 / 3 + 19 * (y % 19) + 15) % 30
def wA (y : Int) : Int := if wI y = 29 ∨ (wI y = 28 ∧ 10 < y % 19) then wI y - 1 else wI y
def wL (y : Int) : Int := wA y - (y + y / 4 + wA y + 2 - y / 100 + y / 100 / 4) % 7
def wM (y : Int) : Int := 3 + (wL y + 40) / 44
def wD (y : Int) : Int := wL y + 28 - 31 * (wM y / 4)

theorem wI_lo (y : Int) : 0 ≤ wI y ∧ wI y < 30 := by unfold wI; omega
theorem wA_lo (y : Int) : 0 ≤ wA y ∧ wA y < 29 := by
  have := wI_lo y
  unfold wA
  split <;> omega

theorem west_i {y c q k4 k3 q30 : Int} (h1 : 100 * c ≤ y) (h2 : y < 100 * c + 100) (h3 : 19 * q ≤ y) (h4 : y < 19 * q + 19)
    (h5 : 4 * k4 ≤ c) (h6 : c < 4 * k4 + 4) (h7 : 3 * k3 ≤ c - 0) (h8 : c - 0 < 3 * k3 + 3)
    (h9 : 30 * q30 ≤ c - k4 - k3 + 19 * (y - 19 * q) + 15) (h10 : c - k4 - k3 + 19 * (y - 19 * q) + 15 < 30 * q30 + 30) :
    c - k4 - k3 + 19 * (y - 19 * q) + 15 - 30 * q30 = wI y := by
  have e1 : y / 100 = c := by omega
  have e2 : c / 4 = k4 := by omega
  have e3 : c / 3 = k3 := by omega
  have e4 : y % 19 = y - 19 * q := by omega
  unfold wI
  rw [e1, e2, e3, e4]
  omega

theorem west_arith {y c q k4 k3 q30 t28 u28 t29 t11 p1 p2 p3 y4 j4 q7 q44 q4 : Int}
    (hp3 : t28 = 0 → p3 = 0) (hp3' : t28 = 1 → p3 = 1 - p2)
    (hp2 : p1 = 0 → p2 = 0) (hp2' : p1 = 1 → p2 = t11)
    (hp1 : u28 = 0 → p1 = 0) (hp1' : u28 = 1 → p1 = t29)
    (h1 : 100 * c ≤ y) (h2 : y < 100 * c + 100) (h3 : 19 * q ≤ y) (h4 : y < 19 * q + 19)
    (h5 : 4 * k4 ≤ c) (h6 : c < 4 * k4 + 4) (h7 : 3 * k3 ≤ c - 0) (h8 : c - 0 < 3 * k3 + 3)
    (h9 : 30 * q30 ≤ c - k4 - k3 + 19 * (y - 19 * q) + 15) (h10 : c - k4 - k3 + 19 * (y - 19 * q) + 15 < 30 * q30 + 30)
    (h11 : 28 * t28 ≤ c - k4 - k3 + 19 * (y - 19 * q) + 15 - 30 * q30) (h12 : c - k4 - k3 + 19 * (y - 19 * q) + 15 - 30 * q30 < 28 * t28 + 28)
    (h13 : 28 * u28 ≤ c - k4 - k3 + 19 * (y - 19 * q) + 15 - 30 * q30) (h14 : c - k4 - k3 + 19 * (y - 19 * q) + 15 - 30 * q30 < 28 * u28 + 28)
    (h15 : 29 < c - k4 - k3 + 19 * (y - 19 * q) + 15 - 30 * q30 + 1 → t29 = 0)
    (h16 : c - k4 - k3 + 19 * (y - 19 * q) + 15 - 30 * q30 + 1 ≤ 29 → 29 < 2 * (c - k4 - k3 + 19 * (y - 19 * q) + 15 - 30 * q30 + 1) → t29 = 1)
    (h17 : 11 * t11 ≤ 21 - (y - 19 * q)) (h18 : 21 - (y - 19 * q) < 11 * t11 + 11)
    (h19 : 4 * y4 ≤ y) (h20 : y < 4 * y4 + 4) (h21 : 4 * j4 ≤ c) (h22 : c < 4 * j4 + 4)
    (h23 : 7 * q7 ≤ y + y4 + (c - k4 - k3 + 19 * (y - 19 * q) + 15 - 30 * q30 - p3) + 2 - c + j4)
    (h24 : y + y4 + (c - k4 - k3 + 19 * (y - 19 * q) + 15 - 30 * q30 - p3) + 2 - c + j4 < 7 * q7 + 7)
    (h25 : 44 * q44 ≤ c - k4 - k3 + 19 * (y - 19 * q) + 15 - 30 * q30 - p3 - (y + y4 + (c - k4 - k3 + 19 * (y - 19 * q) + 15 - 30 * q30 - p3) + 2 - c + j4 - 7 * q7) + 40)
    (h26 : c - k4 - k3 + 19 * (y - 19 * q) + 15 - 30 * q30 - p3 - (y + y4 + (c - k4 - k3 + 19 * (y - 19 * q) + 15 - 30 * q30 - p3) + 2 - c + j4 - 7 * q7) + 40 < 44 * q44 + 44)
    (h27 : 4 * q4 ≤ 3 + q44) (h28 : 3 + q44 < 4 * q4 + 4) :
    y = y ∧ 3 + q44 = wM y ∧ c - k4 - k3 + 19 * (y - 19 * q) + 15 - 30 * q30 - p3 - (y + y4 + (c - k4 - k3 + 19 * (y - 19 * q) + 15 - 30 * q30 - p3) + 2 - c + j4 - 7 * q7) + 28 - 31 * q4 = wD y := by
  have ei := west_i h1 h2 h3 h4 h5 h6 h7 h8 h9 h10
  have eb := wI_lo y
  have eA : wA y = wI y - p3 := by
    have e1 : t29 = if wI y = 28 then 1 else if wI y = 29 then 0 else t29 := by
      split
      · exact h16 (by omega) (by omega)
      · split
        · exact h15 (by omega)
        · rfl
    have en : y % 19 = y - 19 * q := by omega
    unfold wA
    rw [en]
    rw [ei] at h11 h12 h13 h14
    by_cases g : wI y = 28
    · rw [if_pos g] at e1
      have a1 := hp3' (by omega)
      have a2 := hp1' (by omega)
      have a3 := hp2' (by omega)
      by_cases g2 : 10 < y - 19 * q
      · rw [if_pos (Or.inr ⟨g, g2⟩)]; omega
      · rw [if_neg (by omega)]; omega
    · by_cases g2 : wI y = 29
      · rw [if_neg g, if_pos g2] at e1
        have a1 := hp3' (by omega)
        have a2 := hp1' (by omega)
        have a3 := hp2 (by omega)
        rw [if_pos (Or.inl g2)]; omega
      · have a1 := hp3 (by omega)
        rw [if_neg (by omega)]; omega
  rw [ei] at h23 h24 h25 h26 ⊢
  rw [← eA] at h23 h24 h25 h26 ⊢
  clear h9 h10 h11 h12 hp3 hp3' hp2 hp2' hp1 hp1' h13 h14 h15 h16 h17 h18 ei eA
  have e1 : y / 100 = c := by omega
  have e2 : c / 4 = j4 := by omega
  have e3 : y / 4 = y4 := by omega
  have eL : wA y - (y + y4 + wA y + 2 - c + j4 - 7 * q7) = wL y := by
    unfold wL
    rw [e1, e2, e3]
    omega
  rw [eL] at h25 h26 ⊢
  have eM : 3 + q44 = wM y := by unfold wM; omega
  refine ⟨rfl, eM, ?_⟩
  unfold wD
  rw [eM] at h27 h28
  omega

theorem fmod_pos (a : Int) {b : Int} (hb : 0 ≤ b) : a.fmod b = a % b := Int.fmod_eq_emod_of_nonneg a hb
theorem fdiv_pos (a : Int) {b : Int} (hb : 0 ≤ b) : a.fdiv b = a / b := Int.fdiv_eq_ediv_of_nonneg a hb
/-- the day 21 March of a Gregorian year, by the law's own count -/
def gJ (y : Int) : Int := 1721426 + 146097 * ((y - 1) / 400) + 365 * ((y - 1) % 400) + ((y - 1) % 400) / 4 - ((y - 1) % 400) / 100
def gLong (y : Int) : Int := if y % 4 = 0 then (if y % 100 ≠ 0 then 29 else if y % 400 = 0 then 29 else 28) else 28
def gM (y : Int) : Int := gJ y + 31 + gLong y + 20
/-- the same of a Julian year -/
def oM (y : Int) : Int := 1721424 + 365 * (y - 1) + (y - 1) / 4 + 31 + (if y % 4 = 0 then 29 else 28) + 20
/-- the Sunday behind a moon, in days of March -/
def sN (b c : Int) : Int := 22 + c + (5 - b - c) % 7
def sM (b c : Int) : Int := if sN b c ≤ 31 then 3 else 4
def sD (b c : Int) : Int := if sN b c ≤ 31 then sN b c else sN b c - 31

theorem sun_turn {b c n : Int} (h1 : b + c + 1 ≤ n) (h2 : n ≤ b + c + 1 + (5 - b - c) % 7) (h3 : n.fmod 7 ≠ 6) : b + c + 1 ≤ n + 1 ∧ n + 1 ≤ b + c + 1 + (5 - b - c) % 7 := by
  rw [fmod_pos n (by decide)] at h3
  omega
theorem sun_is {b c n : Int} (h1 : b + c + 1 ≤ n) (h2 : n ≤ b + c + 1 + (5 - b - c) % 7) (h3 : n.fmod 7 = 6) : 21 + n - b = sN b c := by
  rw [fmod_pos n (by decide)] at h3
  unfold sN
  omega
theorem sun_e1 {y b c n : Int} (h1 : b + c + 1 ≤ n) (h2 : n ≤ b + c + 1 + (5 - b - c) % 7) (h3 : n.fmod 7 = 6) (h4 : 21 + n - b ≤ 31) : y = y ∧ 3 = sM b c ∧ 21 + n - b = sD b c := by
  rw [sun_is h1 h2 h3] at *
  unfold sM sD
  rw [if_pos h4, if_pos h4]
  exact ⟨rfl, rfl, rfl⟩
theorem sun_e2 {y b c n : Int} (h1 : b + c + 1 ≤ n) (h2 : n ≤ b + c + 1 + (5 - b - c) % 7) (h3 : n.fmod 7 = 6) (h4 : ¬ 21 + n - b ≤ 31) : y = y ∧ 4 = sM b c ∧ 21 + n - b - 31 = sD b c := by
  rw [sun_is h1 h2 h3] at *
  unfold sM sD
  rw [if_neg h4, if_neg h4]
  exact ⟨rfl, rfl, rfl⟩

theorem gLong_is (y : Int) : gLong y = 28 + (y / 4 - (y - 1) / 4) - (y / 100 - (y - 1) / 100) + (y / 400 - (y - 1) / 400) := by
  have e1 : y / 4 - (y - 1) / 4 = if y % 4 = 0 then 1 else 0 := by split <;> omega
  have e2 : y / 100 - (y - 1) / 100 = if y % 100 = 0 then 1 else 0 := by split <;> omega
  have e3 : y / 400 - (y - 1) / 400 = if y % 400 = 0 then 1 else 0 := by split <;> omega
  rw [e1, e2, e3]
  unfold gLong
  by_cases h4 : y % 4 = 0
  · by_cases h1 : y % 100 = 0
    · by_cases h0 : y % 400 = 0
      · simp [h4, h1, h0]
      · simp [h4, h1, h0]
    · have h0 : y % 400 ≠ 0 := by omega
      simp [h4, h1, h0]
  · have h1 : y % 100 ≠ 0 := by omega
    have h0 : y % 400 ≠ 0 := by omega
    simp [h4, h1, h0]
theorem gM_is (y : Int) : gM y = 1721505 + 365 * (y - 1) + y / 4 - y / 100 + y / 400 := by
  have e : gJ y = 1721426 + 365 * (y - 1) + (y - 1) / 4 - (y - 1) / 100 + (y - 1) / 400 := by
    unfold gJ
    generalize y - 1 = z
    have h1 : z = 400 * (z / 400) + z % 400 := by omega
    have h2 : z / 4 = 100 * (z / 400) + (z % 400) / 4 := by omega
    have h3 : z / 100 = 4 * (z / 400) + (z % 400) / 100 := by omega
    omega
  unfold gM
  rw [e, gLong_is]
  omega
theorem west_sun (y : Int) : wL y + 28 = sN (gM y) (wA y) := by
  unfold wL sN
  rw [gM_is]
  have h1 : y / 100 / 4 = y / 400 := by omega
  rw [h1]
  generalize y / 4 = p
  generalize y / 100 = q
  generalize y / 400 = r
  omega
theorem west_tup (y : Int) : wM y = sM (gM y) (wA y) ∧ wD y = sD (gM y) (wA y) := by
  have h1 := west_sun y
  have h2 := wA_lo y
  have h3 : sN (gM y) (wA y) ≤ 57 ∧ 22 ≤ sN (gM y) (wA y) := by unfold sN; omega
  unfold wM wD wM sM sD
  generalize sN (gM y) (wA y) = n at *
  by_cases h : n ≤ 31
  · rw [if_pos h, if_pos h]; omega
  · rw [if_neg h, if_neg h]; omega

def moon (y : Int) : Int := (19 * (y % 19) + 15) % 30
/-- the Julian reckoning: the same Sunday -/
theorem jul_sun (y d : Int) : 22 + d + (2 * (y % 4) + 4 * (y % 7) - d + 6) % 7 = sN (oM y) d := by
  have h1 : oM y = 1721503 + 365 * (y - 1) + y / 4 := by
    unfold oM
    split <;> omega
  unfold sN
  rw [h1]
  have h4 : y % 4 = y - 4 * (y / 4) := by omega
  have h7 : y % 7 = y - 7 * (y / 7) := by omega
  rw [h4, h7]
  generalize y / 4 = p
  generalize y / 7 = q
  omega
theorem jul_tup {y d q : Int} (hd : 0 ≤ d) (hd2 : d < 31) (e : Int) (he : e = (2 * (y % 4) + 4 * (y % 7) - d + 6) % 7) (h1 : 31 * q ≤ 113 + d + e + 1) (h2 : 113 + d + e + 1 < 31 * q + 31) :
    q = sM (oM y) d ∧ (113 + d + e + 1) % 31 + 1 = sD (oM y) d := by
  have h3 := jul_sun y d
  rw [← he] at h3
  have h4 : 0 ≤ e ∧ e < 7 := by omega
  unfold sM sD
  generalize sN (oM y) d = n at *
  by_cases h : n ≤ 31
  · rw [if_pos h, if_pos h]; omega
  · rw [if_neg h, if_neg h]; omega

theorem west_fin {y a b : Int} (h : y = y ∧ a = wM y ∧ b = wD y) : y = y ∧ a = sM (gM y) (wA y) ∧ b = sD (gM y) (wA y) :=
  ⟨rfl, h.2.1.trans (west_tup y).1, h.2.2.trans (west_tup y).2⟩
theorem jan_fin (y : Int) : 1721426 + 146097 * (y - 1).fdiv 400 + 365 * (y - 1).fmod 400 + ((y - 1).fmod 400).fdiv 4 - ((y - 1).fmod 400).fdiv 100 = gJ y := by
  simp only [fmod_pos _ (show (0 : Int) ≤ 400 by decide), fdiv_pos _ (show (0 : Int) ≤ 400 by decide), fdiv_pos _ (show (0 : Int) ≤ 4 by decide), fdiv_pos _ (show (0 : Int) ≤ 100 by decide)]
  rfl
theorem mar_1 {y : Int} (h4 : y.fmod 4 = 0) (h1 : y.fmod 100 ≠ 0) : gJ y + 31 + 29 + 20 = gM y := by
  rw [fmod_pos y (by decide)] at *
  unfold gM gLong
  rw [if_pos h4, if_pos h1]
theorem mar_2 {y : Int} (h4 : y.fmod 4 = 0) (h1 : y.fmod 100 = 0) (h0 : y.fmod 400 = 0) : gJ y + 31 + 29 + 20 = gM y := by
  rw [fmod_pos y (by decide)] at *
  unfold gM gLong
  rw [if_pos h4, if_neg (by omega), if_pos h0]
theorem mar_3 {y : Int} (h4 : y.fmod 4 = 0) (h1 : y.fmod 100 = 0) (h0 : y.fmod 400 ≠ 0) : gJ y + 31 + 28 + 20 = gM y := by
  rw [fmod_pos y (by decide)] at *
  unfold gM gLong
  rw [if_pos h4, if_neg (by omega), if_neg h0]
theorem mar_4 {y : Int} (h4 : y.fmod 4 ≠ 0) : gJ y + 31 + 28 + 20 = gM y := by
  rw [fmod_pos y (by decide)] at *
  unfold gM gLong
  rw [if_neg h4]
theorem old_1 {y : Int} (h4 : y.fmod 4 = 0) : 1721424 + 365 * (y - 1) + (y - 1).fdiv 4 + 31 + 29 + 20 = oM y := by
  rw [fmod_pos y (by decide)] at h4
  rw [fdiv_pos _ (by decide)]
  unfold oM
  rw [if_pos h4]
theorem old_2 {y : Int} (h4 : y.fmod 4 ≠ 0) : 1721424 + 365 * (y - 1) + (y - 1).fdiv 4 + 31 + 28 + 20 = oM y := by
  rw [fmod_pos y (by decide)] at h4
  rw [fdiv_pos _ (by decide)]
  unfold oM
  rw [if_neg h4]

def ageP (y : Int) (pre : List Int) (a : Int) : Prop := a = 15 + 19 * y.fmod 19 + (pre.length : Int) - (pre.length : Int) / 4 - (pre.length : Int) / 3
theorem age_start (y : Int) : ageP y [] (15 + 19 * y.fmod 19) := by unfold ageP; simp
theorem age_turn {y k a d : Int} {pre : List Int} (hp : ageP y pre a) (hk : k = 1 + (pre.length : Int)) (hd : d = (if k.fmod 4 = 0 then 0 else 1) - (if k.fmod 3 = 0 then 1 else 0)) : ageP y (pre ++ [k]) (a + d) := by
  unfold ageP at *
  rw [fmod_pos k (by decide), fmod_pos k (by decide)] at hd
  rw [List.length_append, List.length_singleton]
  generalize pre.length = n at *
  have e1 : ((n + 1 : Nat) : Int) = (n : Int) + 1 := by omega
  have e4 : ((n : Int) + 1) / 4 = (n : Int) / 4 + (1 - (if k % 4 = 0 then 0 else 1)) := by subst hk; split <;> omega
  have e3 : ((n : Int) + 1) / 3 = (n : Int) / 3 + (if k % 3 = 0 then 1 else 0) := by subst hk; split <;> omega
  rw [e1, e4, e3]
  omega
theorem age_t1 {y k a : Int} {pre : List Int} (hp : ageP y pre a) (hk : k = 1 + (pre.length : Int)) (h4 : k.fmod 4 ≠ 0) (h3 : k.fmod 3 = 0) : ageP y (pre ++ [k]) (a + 1 - 1) := by
  have := age_turn (d := 0) hp hk (by rw [if_neg h4, if_pos h3]; rfl)
  rwa [Int.add_zero, ← Int.add_sub_cancel a 1] at this
theorem age_t2 {y k a : Int} {pre : List Int} (hp : ageP y pre a) (hk : k = 1 + (pre.length : Int)) (h4 : k.fmod 4 ≠ 0) (h3 : k.fmod 3 ≠ 0) : ageP y (pre ++ [k]) (a + 1) :=
  age_turn (d := 1) hp hk (by rw [if_neg h4, if_neg h3]; rfl)
theorem age_t3 {y k a : Int} {pre : List Int} (hp : ageP y pre a) (hk : k = 1 + (pre.length : Int)) (h4 : k.fmod 4 = 0) (h3 : k.fmod 3 = 0) : ageP y (pre ++ [k]) (a - 1) :=
  age_turn (d := -1) hp hk (by rw [if_pos h4, if_pos h3]; rfl)
theorem age_t4 {y k a : Int} {pre : List Int} (hp : ageP y pre a) (hk : k = 1 + (pre.length : Int)) (h4 : k.fmod 4 = 0) (h3 : k.fmod 3 ≠ 0) : ageP y (pre ++ [k]) a := by
  have := age_turn (d := 0) hp hk (by rw [if_pos h4, if_neg h3]; rfl)
  rwa [Int.add_zero] at this
theorem age_wI {y a : Int} {pre : List Int} (hy : 0 ≤ y) (hp : ageP y pre a) (hl : pre.length = (y.fdiv 100 + 1 - 1).toNat) : a.fmod 30 = wI y := by
  unfold ageP at hp
  rw [hl, fdiv_pos y (by decide), fmod_pos y (by decide)] at hp
  rw [fmod_pos a (by decide)]
  have e : (((y / 100 + 1 - 1).toNat : Nat) : Int) = y / 100 := by omega
  rw [e] at hp
  unfold wI
  rw [hp]
  omega
theorem age_e1 {y a : Int} {pre : List Int} (hy : 0 ≤ y) (hp : ageP y pre a) (hl : pre.length = (y.fdiv 100 + 1 - 1).toNat) (h1 : a.fmod 30 = 29) : a.fmod 30 - 1 = wA y := by
  rw [age_wI hy hp hl] at *
  unfold wA
  rw [if_pos (Or.inl h1)]
theorem age_e2 {y a : Int} {pre : List Int} (hy : 0 ≤ y) (hp : ageP y pre a) (hl : pre.length = (y.fdiv 100 + 1 - 1).toNat) (h2 : a.fmod 30 = 28) (h3 : 10 < y.fmod 19) : a.fmod 30 - 1 = wA y := by
  rw [age_wI hy hp hl] at *
  rw [fmod_pos y (by decide)] at h3
  unfold wA
  rw [if_pos (Or.inr ⟨h2, h3⟩)]
theorem age_e3 {y a : Int} {pre : List Int} (hy : 0 ≤ y) (hp : ageP y pre a) (hl : pre.length = (y.fdiv 100 + 1 - 1).toNat) (h1 : a.fmod 30 ≠ 29) (h3 : ¬ 10 < y.fmod 19) : a.fmod 30 = wA y := by
  rw [age_wI hy hp hl] at *
  rw [fmod_pos y (by decide)] at h3
  unfold wA
  rw [if_neg (by omega)]
theorem age_e4 {y a : Int} {pre : List Int} (hy : 0 ≤ y) (hp : ageP y pre a) (hl : pre.length = (y.fdiv 100 + 1 - 1).toNat) (h1 : a.fmod 30 ≠ 29) (h2 : a.fmod 30 ≠ 28) : a.fmod 30 = wA y := by
  rw [age_wI hy hp hl] at *
  unfold wA
  rw [if_neg (by omega)]

theorem jul_fin {y d q : Int} (hd : d = moon y)
    (h1 : 31 * q ≤ 113 + (19 * y.fmod 19 + 15).fmod 30 + (2 * y.fmod 4 + 4 * y.fmod 7 - (19 * y.fmod 19 + 15).fmod 30 + 6).fmod 7 + 1)
    (h2 : 113 + (19 * y.fmod 19 + 15).fmod 30 + (2 * y.fmod 4 + 4 * y.fmod 7 - (19 * y.fmod 19 + 15).fmod 30 + 6).fmod 7 + 1 < 31 * q + 31) :
    y = y ∧ q = sM (oM y) d ∧ (113 + (19 * y.fmod 19 + 15).fmod 30 + (2 * y.fmod 4 + 4 * y.fmod 7 - (19 * y.fmod 19 + 15).fmod 30 + 6).fmod 7 + 1).fmod 31 + 1 = sD (oM y) d := by
  simp only [fmod_pos _ (show (0 : Int) ≤ 19 by decide), fmod_pos _ (show (0 : Int) ≤ 4 by decide), fmod_pos _ (show (0 : Int) ≤ 7 by decide), fmod_pos _ (show (0 : Int) ≤ 30 by decide), fmod_pos _ (show (0 : Int) ≤ 31 by decide)] at h1 h2 ⊢
  have e : (19 * (y % 19) + 15) % 30 = d := hd.symm
  have hb : 0 ≤ d ∧ d < 31 := by omega
  rw [e] at h1 h2 ⊢
  exact ⟨trivial, jul_tup hb.1 hb.2 _ rfl h1 h2⟩
theorem jul_fin1 {y d q : Int} (hd : d = moon y + 1)
    (h1 : 31 * q ≤ 113 + ((19 * y.fmod 19 + 15).fmod 30 + 1) + (2 * y.fmod 4 + 4 * y.fmod 7 - ((19 * y.fmod 19 + 15).fmod 30 + 1) + 6).fmod 7 + 1)
    (h2 : 113 + ((19 * y.fmod 19 + 15).fmod 30 + 1) + (2 * y.fmod 4 + 4 * y.fmod 7 - ((19 * y.fmod 19 + 15).fmod 30 + 1) + 6).fmod 7 + 1 < 31 * q + 31) :
    y = y ∧ q = sM (oM y) d ∧ (113 + ((19 * y.fmod 19 + 15).fmod 30 + 1) + (2 * y.fmod 4 + 4 * y.fmod 7 - ((19 * y.fmod 19 + 15).fmod 30 + 1) + 6).fmod 7 + 1).fmod 31 + 1 = sD (oM y) d := by
  simp only [fmod_pos _ (show (0 : Int) ≤ 19 by decide), fmod_pos _ (show (0 : Int) ≤ 4 by decide), fmod_pos _ (show (0 : Int) ≤ 7 by decide), fmod_pos _ (show (0 : Int) ≤ 30 by decide), fmod_pos _ (show (0 : Int) ≤ 31 by decide)] at h1 h2 ⊢
  have e : (19 * (y % 19) + 15) % 30 + 1 = d := hd.symm
  have hb : 0 ≤ d ∧ d < 31 := by omega
  rw [e] at h1 h2 ⊢
  exact ⟨trivial, jul_tup hb.1 hb.2 _ rfl h1 h2⟩
theorem jul_e1 {y d : Int} (hd : d = moon y + (if y % 19 = 0 then 1 else 0)) (h : y.fmod 19 = 0) : d = moon y + 1 := by
  rw [fmod_pos y (by decide)] at h
  rwa [if_pos h] at hd
theorem jul_e0 {y d : Int} (hd : d = moon y + (if y % 19 = 0 then 1 else 0)) (h : y.fmod 19 ≠ 0) : d = moon y := by
  rw [fmod_pos y (by decide)] at h
  rw [if_neg h] at hd
  omega
/-- the Julian reckoning's last number, as it is divided by 31 -/
theorem jul_b (u v : Int) : 0 ≤ 113 + u.fmod 30 + v.fmod 7 + 1 ∧ 113 + u.fmod 30 + v.fmod 7 + 1 < 200 := by
  rw [fmod_pos u (by decide), fmod_pos v (by decide)]
  omega
theorem jul_b1 (u v : Int) : 0 ≤ 113 + (u.fmod 30 + 1) + v.fmod 7 + 1 ∧ 113 + (u.fmod 30 + 1) + v.fmod 7 + 1 < 200 := by
  rw [fmod_pos u (by decide), fmod_pos v (by decide)]
  omega
theorem abs_b {a : Int} (h : 0 ≤ a ∧ a < 200) : a.natAbs < 2 ^ 20 := by omega

set_option maxRecDepth 100000 in
set_option maxHeartbeats 8000000 in
open_top hd for PySem.Challenge.rw_bf6007_01

noncomputable abbrev loo : List Str := looseW hd.view_39
    [Str.ofString "legal_date_gregorian", Str.ofString "to_jd_gregorian", Str.ofString "legal_date_julian",
      Str.ofString "to_jd_julian", Str.ofString "easter", Str.ofString "_easter_julian"]
abbrev Tup (D : Addr) (x1 x2 x3 : Int) (t1 t2 t3 : Tok) (c : Nat) : Addr × Obj := (D, ({ cls := .type "tuple", data := .seq #[.int x1 t1, .int x2 t2, .int x3 t3] c } : Obj))
/-- a def handed back an int -/
abbrev RI (r : Int) (h₀ : Heap) (L : Addr) (m : Str → Option Value) (news : List (Addr × Obj)) (s : Shared) (Q : Value → Shared → Prop) : Prop :=
  ∀ (x : Int) (t : Tok) (h' : Heap) (tk' : Nat), x = r → Fr h₀ L h' m → News h₀ L h' news → Q (.int x t) { s with heap := h', toks := tk' }
/-- a def handed back a tuple of three ints -/
abbrev RT (r1 r2 r3 : Int) (h₀ : Heap) (L : Addr) (m : Str → Option Value) (news : List (Addr × Obj)) (s : Shared) (Q : Value → Shared → Prop) : Prop :=
  ∀ (D : Addr) (x1 x2 x3 : Int) (t1 t2 t3 : Tok) (c : Nat) (h' : Heap) (tk' : Nat), (x1 = r1 ∧ x2 = r2 ∧ x3 = r3) → Fr h₀ L h' m → News h₀ L h' (Tup D x1 x2 x3 t1 t2 t3 c :: news) → Q (.ref D) { s with heap := h', toks := tk' }
/-- a call of the text's def at f, from any frame of the text's, with room left -/
abbrev Co (f : Addr) (pre : Prop) (vs : List Value) (R : Heap → Addr → (Str → Option Value) → List (Addr × Obj) → Shared → (Value → Shared → Prop) → Prop) : Prop :=
  ∀ (w : World) (mean : ExcName → Option Value) (mg mb : Str → Option Value) (news : List (Addr × Obj)) (dp un : Nat) (gd : Option (List Code)) (cn : Str) (cs : Scope) (a : Addr) (ccd : Value) (cl : List (Str × Addr)) (outer : List Env) (A₀ : Around) (base h₀ : Heap) (L : Addr) (m : Str → Option Value) (s : Shared) (Q E : Value → Shared → Prop),
    Below A₀ base outer h₀ → Fr h₀ L s.heap m → (hd.heap_39 w.params).In h₀ → News h₀ L s.heap news → Top hd.view_39 loo mean mg mb h₀ → cs.kind = .function →
    pre → dp + 10 < recursionLimit → un + 160 < cLine → R h₀ L m news s Q →
    wpAny (model PySem.Challenge.rw_bf6007_01.row.prog w) (ktrTop dp un gd cn cs L a ccd cl outer) (call (.ref f) vs) Q E s
/-- a call of the text's def at f, from any frame of the text's, with more room left: for a def that calls another -/
abbrev CoB (f : Addr) (pre : Prop) (vs : List Value) (R : Heap → Addr → (Str → Option Value) → List (Addr × Obj) → Shared → (Value → Shared → Prop) → Prop) : Prop :=
  ∀ (w : World) (mean : ExcName → Option Value) (mg mb : Str → Option Value) (news : List (Addr × Obj)) (dp un : Nat) (gd : Option (List Code)) (cn : Str) (cs : Scope) (a : Addr) (ccd : Value) (cl : List (Str × Addr)) (outer : List Env) (A₀ : Around) (base h₀ : Heap) (L : Addr) (m : Str → Option Value) (s : Shared) (Q E : Value → Shared → Prop),
    Below A₀ base outer h₀ → Fr h₀ L s.heap m → (hd.heap_39 w.params).In h₀ → News h₀ L s.heap news → Top hd.view_39 loo mean mg mb h₀ → cs.kind = .function →
    pre → dp + 30 < recursionLimit → un + 480 < cLine → R h₀ L m news s Q →
    wpAny (model PySem.Challenge.rw_bf6007_01.row.prog w) (ktrTop dp un gd cn cs L a ccd cl outer) (call (.ref f) vs) Q E s

section
local macro_rules | `(tactic| walk_at "binaryOp Div int int") => `(tactic| (k_here; with_reducible refine w_div rfl (by omega) (by omega) ?_))
local macro_rules | `(tactic| walk_at "call builtin:math.trunc") => `(tactic| (k_here; (with_reducible refine w_truncC rfl (by omega) (by omega) (by omega) (by omega) ?_); intro r hr0 hr1 hr2; (try dsimp only); (try k_fold)))
local macro_rules | `(tactic| walk_at "call builtin:math.trunc") => `(tactic| (k_here; (with_reducible refine w_truncA rfl (by omega) (by omega) (by decide) (by decide) ?_); intro r hr1 hr2; (try dsimp only); (try k_fold)))
local macro_rules | `(tactic| walk_at "call builtin:math.trunc") => `(tactic| (k_here; (with_reducible refine w_truncB rfl (by omega) (by omega) (by omega) (by omega) ?_)))
local macro_rules | `(tactic| walk_at "binaryOp Mult int int") => `(tactic| (k_here; (with_reducible refine w_mul01 (by omega) (by omega) ?_); intro r hr1 hr2; (try dsimp only); (try k_fold)))

set_option maxRecDepth 100000 in
set_option maxHeartbeats 8000000 in
theorem western_c : ∀ (y : Int) (t : Tok), Co 122 (0 ≤ y ∧ y ≤ 1582) [.int y t] (RT y (sM (gM y) (wA y)) (sD (gM y) (wA y))) := by
  intro y t
  unfold Co
  k_fill
  dsimp only [RT]
  intro w mean mg mb news dp un gd cn cs a ccd cl outer A₀ base h₀ L m s Q E B F K N T hk hpre hd hu hret
  obtain ⟨hy0, hy1⟩ := hpre
  k_with_none
  w_top off
  refine wpAny_call ?_
  k_dflt cell_enter
  k_steps
  all_goals (refine' hret _ _ _ _ _ _ _ _ _ _ ?key ?kF ?kN)
  case kN => assumption
  case kF => assumption
  case key => exact west_fin (west_arith (by assumption) (by assumption) (by assumption) (by assumption) (by assumption) (by assumption) (by assumption) (by assumption) (by assumption) (by assumption) (by assumption) (by assumption) (by assumption) (by assumption) (by assumption) (by assumption) (by assumption) (by assumption) (by assumption) (by assumption) (by assumption) (by assumption) (by assumption) (by assumption) (by assumption) (by assumption) (by assumption) (by assumption) (by assumption) (by assumption) (by assumption) (by assumption) (by assumption) (by assumption))
end

section
set_option maxRecDepth 100000 in
set_option maxHeartbeats 8000000 in
theorem age_c : ∀ (y : Int) (t : Tok), Co 172 (0 ≤ y ∧ y ≤ 1582) [.int y t] (RI (wA y)) := by
  intro y t
  unfold Co
  k_fill
  dsimp only [RI]
  intro w mean mg mb news dp un gd cn cs a ccd cl outer A₀ base h₀ L m s Q E B F K N T hk hpre hd hu hret
  obtain ⟨hy0, hy1⟩ := hpre
  k_with_none
  w_top off
  (k_with "pyIter ref" => k_state (fun pre a => ageP y pre a) "age")
  (k_with "state" => first | exact age_start _ | exact age_t1 (by assumption) (by assumption) (by assumption) (by assumption) | exact age_t2 (by assumption) (by assumption) (by assumption) (by assumption) | exact age_t3 (by assumption) (by assumption) (by assumption) (by assumption) | exact age_t4 (by assumption) (by assumption) (by assumption) (by assumption))
  refine wpAny_call ?_
  k_dflt cell_enter
  k_steps
  all_goals (refine hret _ _ _ _ ?_ (by assumption) (by assumption))
  all_goals first
    | exact age_e1 hy0 (by assumption) (rangeKs_length _ _) (by assumption)
    | exact age_e2 hy0 (by assumption) (rangeKs_length _ _) (by assumption) (by assumption)
    | exact age_e3 hy0 (by assumption) (rangeKs_length _ _) (by assumption) (by assumption)
    | exact age_e4 hy0 (by assumption) (rangeKs_length _ _) (by assumption) (by assumption)
end

section
set_option maxRecDepth 100000 in
set_option maxHeartbeats 8000000 in
theorem january_c : ∀ (y : Int) (t : Tok), Co 151 True [.int y t] (RI (gJ y)) := by
  intro y t
  unfold Co
  k_fill
  dsimp only [RI]
  intro w mean mg mb news dp un gd cn cs a ccd cl outer A₀ base h₀ L m s Q E B F K N T hk hpre hd hu hret
  skip
  k_with_none
  w_top off
  refine wpAny_call ?_
  k_dflt cell_enter
  k_steps
  all_goals (refine hret _ _ _ _ ?_ (by assumption) (by first | assumption | (refine' cb_drop ?cbN ?cbS; (case cbN => assumption); (case cbS => kcj_all))))
  all_goals first | exact jan_fin _

local macro_rules | `(tactic| walk_at "call ref") => `(tactic| (k_here; (with_reducible show wpAny _ _ (call (Value.ref 151) [Value.int _ _]) _ _ _); k_dflt (refine' january_c _ _ _ _ _ _ _ _ _ _ _ _ _ _ _ _ _ _ _ _ _ _ _ _ ?k1 ?k2 ?k3 ?k4 ?k5 ?kK ?kp ?kd ?ku ?_); (case k1 => k_asm); (case k2 => k_asm); (case k3 => k_asm); (case k4 => k_asm); (case k5 => k_asm); (case kK => first | exact rfl | assumption); (case kp => exact trivial); (case kd => ktr_room); (case ku => ktr_units); intro x9 t9 h9 tk9 e9 F9 N9; subst e9; (try dsimp only); (try k_fold)))

set_option maxRecDepth 100000 in
set_option maxHeartbeats 8000000 in
theorem march_c : ∀ (y : Int) (t : Tok), CoB 158 (0 ≤ y ∧ y ≤ 1582) [.int y t] (RI (gM y)) := by
  intro y t
  unfold CoB
  k_fill
  dsimp only [RI]
  intro w mean mg mb news dp un gd cn cs a ccd cl outer A₀ base h₀ L m s Q E B F K N T hk hpre hd hu hret
  obtain ⟨hy0, hy1⟩ := hpre
  k_with_none
  w_top off
  refine wpAny_call ?_
  k_dflt cell_enter
  k_steps
  all_goals (refine hret _ _ _ _ ?_ (by assumption) (by first | assumption | (refine' cb_drop ?cbN ?cbS; (case cbN => assumption); (case cbS => kcj_all))))
  all_goals first | exact mar_1 (by assumption) (by assumption) | exact mar_2 (by assumption) (by assumption) (by assumption) | exact mar_3 (by assumption) (by assumption) (by assumption) | exact mar_4 (by assumption) | (exfalso; omega)

set_option maxRecDepth 100000 in
set_option maxHeartbeats 8000000 in
theorem oldmarch_c : ∀ (y : Int) (t : Tok), Co 165 (-3000000000 ≤ y ∧ y ≤ 3000000000) [.int y t] (RI (oM y)) := by
  intro y t
  unfold Co
  k_fill
  dsimp only [RI]
  intro w mean mg mb news dp un gd cn cs a ccd cl outer A₀ base h₀ L m s Q E B F K N T hk hpre hd hu hret
  obtain ⟨hy0, hy1⟩ := hpre
  k_with_none
  w_top off
  refine wpAny_call ?_
  k_dflt cell_enter
  k_steps
  all_goals (refine hret _ _ _ _ ?_ (by assumption) (by first | assumption | (refine' cb_drop ?cbN ?cbS; (case cbN => assumption); (case cbS => kcj_all))))
  all_goals first | exact old_1 (by assumption) | exact old_2 (by assumption) | (exfalso; omega)
end

section
set_option maxRecDepth 100000 in
set_option maxHeartbeats 8000000 in
theorem sunday_c : ∀ (y b c : Int) (t u v : Tok), Co 179 (-3000000000000 ≤ b ∧ b ≤ 3000000000000 ∧ 0 ≤ c ∧ c ≤ 30) [.int y t, .int b u, .int c v] (RT y (sM b c) (sD b c)) := by
  intro y b c t u v
  unfold Co
  k_fill
  dsimp only [RT]
  intro w mean mg mb news dp un gd cn cs a ccd cl outer A₀ base h₀ L m s Q E B F K N T hk hpre hd hu hret
  obtain ⟨hb0, hb1, hc0, hc1⟩ := hpre
  k_with_none
  w_top off
  (k_with "exec While Compare cons nil" => k_while (fun _ n => b + c + 1 ≤ n ∧ n ≤ b + c + 1 + (5 - b - c) % 7) (fun _ n => (b + c + 8 - n).toNat) "number")
  (k_with "state" => exact sun_turn (by assumption) (by assumption) (by assumption))
  refine wpAny_call ?_
  k_dflt cell_enter
  k_steps
  all_goals (refine hret _ _ _ _ _ _ _ _ _ _ ?_ (by assumption) (by assumption))
  all_goals first | exact sun_e1 (by assumption) (by assumption) (by assumption) (by assumption) | exact sun_e2 (by assumption) (by assumption) (by assumption) (by assumption)
end

section
local macro_rules | `(tactic| walk_at "binaryOp Div int int") => `(tactic| (k_here; with_reducible refine w_div rfl (by first | exact abs_b (jul_b _ _) | exact abs_b (jul_b1 _ _)) (by decide) ?_))
local macro_rules | `(tactic| walk_at "call builtin:math.trunc") => `(tactic| (k_here; (with_reducible refine w_truncA rfl (by first | exact (jul_b _ _).1 | exact (jul_b1 _ _).1) (by first | exact Int.lt_trans (jul_b _ _).2 (by decide) | exact Int.lt_trans (jul_b1 _ _).2 (by decide)) (by decide) (by decide) ?_); intro r hr1 hr2; (try dsimp only); (try k_fold)))

set_option maxRecDepth 100000 in
set_option maxHeartbeats 8000000 in
theorem julian_c : ∀ (y d : Int) (t : Tok), Co 130 (-3000000000 ≤ y ∧ y ≤ 3000000000 ∧ d = moon y) [.int y t] (RT y (sM (oM y) d) (sD (oM y) d)) := by
  intro y d t
  unfold Co
  k_fill
  dsimp only [RT]
  intro w mean mg mb news dp un gd cn cs a ccd cl outer A₀ base h₀ L m s Q E B F K N T hk hpre hd hu hret
  obtain ⟨hy0, hy1, hd0⟩ := hpre
  k_with_none
  w_top off
  refine wpAny_call ?_
  k_dflt (refine' code_def ?k1 ?k2 ?k3 ?k4 ?k5 ?kA ?kF ?kK ?k6 ?k7 ?k8 ?k9 ?kB ?_ ?c2 ?c3 ?c4 ?c5; (case kA => exact rfl); (case kF => exact rfl); (case kK => assumption); (case k1 => k_asm); (case k2 => k_asm); (case k3 => k_asm); (case k4 => k_asm); (case k5 => k_asm); (case k6 => k_is); (case k7 => k_is); (case k8 => ktr_room); (case k9 => first | exact BindsTo.of_eq rfl | exact binds_K (by k_in) rfl (by k_is) rfl rfl rfl); (case c5 => decide); (case kB => exact locs rfl); (case c2 => exact rfl); (case c3 => exact rfl); (case c4 => exact rfl); k_whole; intro g' L' h' FG' F' N' B' X' T'; (try dsimp only); (try k_lift B'); (try k_fold))
  k_steps
  all_goals (refine hret _ _ _ _ _ _ _ _ _ _ ?_ (by assumption) (by assumption))
  all_goals first | exact jul_fin hd0 (by assumption) (by assumption)

set_option maxRecDepth 100000 in
set_option maxHeartbeats 8000000 in
theorem julian_o : ∀ (y d : Int) (t u : Tok), Co 130 (-3000000000 ≤ y ∧ y ≤ 3000000000 ∧ d = moon y) [.int y t, .str (Str.ofString "other") u] (RT y (sM (oM y) d) (sD (oM y) d)) := by
  intro y d t u
  unfold Co
  k_fill
  dsimp only [RT]
  intro w mean mg mb news dp un gd cn cs a ccd cl outer A₀ base h₀ L m s Q E B F K N T hk hpre hd hu hret
  obtain ⟨hy0, hy1, hd0⟩ := hpre
  k_with_none
  w_top off
  refine wpAny_call ?_
  k_dflt (refine' code_def ?k1 ?k2 ?k3 ?k4 ?k5 ?kA ?kF ?kK ?k6 ?k7 ?k8 ?k9 ?kB ?_ ?c2 ?c3 ?c4 ?c5; (case kA => exact rfl); (case kF => exact rfl); (case kK => assumption); (case k1 => k_asm); (case k2 => k_asm); (case k3 => k_asm); (case k4 => k_asm); (case k5 => k_asm); (case k6 => k_is); (case k7 => k_is); (case k8 => ktr_room); (case k9 => first | exact BindsTo.of_eq rfl | exact binds_K (by k_in) rfl (by k_is) rfl rfl rfl); (case c5 => decide); (case kB => exact locs rfl); (case c2 => exact rfl); (case c3 => exact rfl); (case c4 => exact rfl); k_whole; intro g' L' h' FG' F' N' B' X' T'; (try dsimp only); (try k_lift B'); (try k_fold))
  k_steps
  all_goals (refine hret _ _ _ _ _ _ _ _ _ _ ?_ (by assumption) (by assumption))
  all_goals first | exact jul_fin hd0 (by assumption) (by assumption)

set_option maxRecDepth 100000 in
set_option maxHeartbeats 8000000 in
theorem julian_e : ∀ (y d : Int) (t u : Tok), Co 130 (-3000000000 ≤ y ∧ y ≤ 3000000000 ∧ d = moon y + (if y % 19 = 0 then 1 else 0)) [.int y t, .str (Str.ofString "eastern") u] (RT y (sM (oM y) d) (sD (oM y) d)) := by
  intro y d t u
  unfold Co
  k_fill
  dsimp only [RT]
  intro w mean mg mb news dp un gd cn cs a ccd cl outer A₀ base h₀ L m s Q E B F K N T hk hpre hd hu hret
  obtain ⟨hy0, hy1, hd0⟩ := hpre
  k_with_none
  w_top off
  refine wpAny_call ?_
  k_dflt (refine' code_def ?k1 ?k2 ?k3 ?k4 ?k5 ?kA ?kF ?kK ?k6 ?k7 ?k8 ?k9 ?kB ?_ ?c2 ?c3 ?c4 ?c5; (case kA => exact rfl); (case kF => exact rfl); (case kK => assumption); (case k1 => k_asm); (case k2 => k_asm); (case k3 => k_asm); (case k4 => k_asm); (case k5 => k_asm); (case k6 => k_is); (case k7 => k_is); (case k8 => ktr_room); (case k9 => first | exact BindsTo.of_eq rfl | exact binds_K (by k_in) rfl (by k_is) rfl rfl rfl); (case c5 => decide); (case kB => exact locs rfl); (case c2 => exact rfl); (case c3 => exact rfl); (case c4 => exact rfl); k_whole; intro g' L' h' FG' F' N' B' X' T'; (try dsimp only); (try k_lift B'); (try k_fold))
  k_steps
  all_goals (refine hret _ _ _ _ _ _ _ _ _ _ ?_ (by assumption) (by assumption))
  all_goals first | exact jul_fin (jul_e0 hd0 (by assumption)) (by assumption) (by assumption) | exact jul_fin1 (jul_e1 hd0 (by assumption)) (by assumption) (by assumption)
end

section
theorem gM_b {y : Int} (h0 : 0 ≤ y) (h1 : y ≤ 1582) : -3000000000000 ≤ gM y ∧ gM y ≤ 3000000000000 := by rw [gM_is]; omega
theorem oM_b {y : Int} (h0 : -3000000000 ≤ y) (h1 : y ≤ 3000000000) : -3000000000000 ≤ oM y ∧ oM y ≤ 3000000000000 := by unfold oM; split <;> omega
theorem moon_b (y : Int) : 0 ≤ moon y ∧ moon y ≤ 30 := by unfold moon; omega
theorem sunW {y : Int} (h : 0 ≤ y ∧ y ≤ 1582) : -3000000000000 ≤ gM y ∧ gM y ≤ 3000000000000 ∧ 0 ≤ wA y ∧ wA y ≤ 30 :=
  ⟨(gM_b h.1 h.2).1, (gM_b h.1 h.2).2, (wA_lo y).1, by have := (wA_lo y).2; omega⟩
theorem sunO {y d : Int} (h : -3000000000 ≤ y ∧ y ≤ 3000000000) (hd : 0 ≤ d ∧ d ≤ 30) : -3000000000000 ≤ oM y ∧ oM y ≤ 3000000000000 ∧ 0 ≤ d ∧ d ≤ 30 :=
  ⟨(oM_b h.1 h.2).1, (oM_b h.1 h.2).2, hd.1, hd.2⟩
structure JEnd (x : Str) (lo hi : Int) (h₀ : Heap) (L : Addr) (m : Str → Option Value) (news : List (Addr × Obj)) (s : Shared) (f : Flow) (s' : Shared) : Prop where
  next : f = .next
  here : ∃ (v : Int) (t : Tok) (h : Heap) (tk : Nat), lo ≤ v ∧ v ≤ hi ∧ s' = { s with heap := h, toks := tk } ∧ Fr h₀ L h (fun y => if y = x then some (.int v t) else m y) ∧ News h₀ L h news
theorem JEnd.put {x : Str} {lo hi v : Int} {t : Tok} {h₀ h : Heap} {L : Addr} {m : Str → Option Value} {news : List (Addr × Obj)} {s : Shared} {tk : Nat} (F : Fr h₀ L h (fun y => if y = x then some (.int v t) else m y)) (N : News h₀ L h news) (h1 : lo ≤ v) (h2 : v ≤ hi) :
    JEnd x lo hi h₀ L m news s .next { s with heap := h, toks := tk } := ⟨rfl, v, t, h, tk, h1, h2, rfl, F, N⟩
theorem JEnd.stay {x : Str} {lo hi v : Int} {t : Tok} {h₀ h : Heap} {L : Addr} {m : Str → Option Value} {news : List (Addr × Obj)} {s : Shared} {tk : Nat} (hold : m x = some (.int v t)) (F : Fr h₀ L h m) (N : News h₀ L h news) (h1 : lo ≤ v) (h2 : v ≤ hi) :
    JEnd x lo hi h₀ L m news s .next { s with heap := h, toks := tk } := by
  have e : (fun y => if y = x then some (Value.int v t) else m y) = m := by
    funext y
    by_cases hy : y = x
    · rw [if_pos hy, hy, hold]
    · rw [if_neg hy]
  exact ⟨rfl, v, t, h, tk, h1, h2, rfl, by rw [e]; exact F, N⟩
theorem if_join {M : Model} {A : Around} {E : Value → Shared → Prop} {Q : Flow → Shared → Prop} {s : Shared} {env : Env} {h₀ : Heap} {L : Addr} {m : Str → Option Value} {news : List (Addr × Obj)} {test : Expr} {body orelse : List Stmt} {pos : Pos} (x : Str) (lo hi : Int)
    (_F : Fr h₀ L s.heap m) (_N : News h₀ L s.heap news)
    (h : wpAny M A (isTrue test env (eval test env)) (fun b s₂ => if b then wpAny M A (execs body env) (JEnd x lo hi h₀ L m news s) E s₂ else wpAny M A (execs orelse env) (JEnd x lo hi h₀ L m news s) E s₂) E s)
    (hk : ∀ (v : Int) (t : Tok) (h : Heap) (tk : Nat), lo ≤ v → v ≤ hi → Fr h₀ L h (fun y => if y = x then some (.int v t) else m y) → News h₀ L h news → Q .next { s with heap := h, toks := tk }) :
    wpAny M A (exec (.If test body orelse pos) env) Q E s :=
  wpAny_mono (wpAny_If h) (fun _ _ q => by
    obtain ⟨e, v, t, h, tk, h1, h2, e2, F, N⟩ := q
    subst e; subst e2
    exact hk v t h tk h1 h2 F N) fun _ _ q => q
theorem moon_at {t0 t1 t2 t3 t4 t5 t6 t7 t8 t9 t10 t11 t12 t13 t14 t15 t16 t17 t18 : Tok} : ∀ j : Nat, j < 19 → ∃ t, ([.int 15 t0, .int 4 t1, .int 23 t2, .int 12 t3, .int 1 t4, .int 20 t5, .int 9 t6, .int 28 t7, .int 17 t8, .int 6 t9, .int 25 t10, .int 14 t11, .int 3 t12, .int 22 t13, .int 11 t14, .int 0 t15, .int 19 t16, .int 8 t17, .int 27 t18] : List Value)[j]? = some (.int ((19 * (j : Int) + 15) % 30) t)
  | 0, _ => ⟨t0, rfl⟩
  | 1, _ => ⟨t1, rfl⟩
  | 2, _ => ⟨t2, rfl⟩
  | 3, _ => ⟨t3, rfl⟩
  | 4, _ => ⟨t4, rfl⟩
  | 5, _ => ⟨t5, rfl⟩
  | 6, _ => ⟨t6, rfl⟩
  | 7, _ => ⟨t7, rfl⟩
  | 8, _ => ⟨t8, rfl⟩
  | 9, _ => ⟨t9, rfl⟩
  | 10, _ => ⟨t10, rfl⟩
  | 11, _ => ⟨t11, rfl⟩
  | 12, _ => ⟨t12, rfl⟩
  | 13, _ => ⟨t13, rfl⟩
  | 14, _ => ⟨t14, rfl⟩
  | 15, _ => ⟨t15, rfl⟩
  | 16, _ => ⟨t16, rfl⟩
  | 17, _ => ⟨t17, rfl⟩
  | 18, _ => ⟨t18, rfl⟩
  | n + 19, h => absurd h (by omega)
theorem moon_item {prog : Program} {w : World} {A : Around} {E : Value → Shared → Prop} {s : Shared} {value slice : PySem.Expr} {h₀ : Heap} {L l : Addr} {news : List (Addr × Obj)} {y : Int} {u : Tok} {n : Nat} {t0 t1 t2 t3 t4 t5 t6 t7 t8 t9 t10 t11 t12 t13 t14 t15 t16 t17 t18 : Tok} {Q : Value → Shared → Prop}
    (N : News h₀ L s.heap news) (hm : (l, W.listOf #[.int 15 t0, .int 4 t1, .int 23 t2, .int 12 t3, .int 1 t4, .int 20 t5, .int 9 t6, .int 28 t7, .int 17 t8, .int 6 t9, .int 25 t10, .int 14 t11, .int 3 t12, .int 22 t13, .int 11 t14, .int 0 t15, .int 19 t16, .int 8 t17, .int 27 t18] n) ∈ news) (h : ∀ t, Q (.int (moon y) t) s)
    (hs : subscripted slice false (.ref l) (.int (y.fmod 19) u) = operate [.ref l, .int (y.fmod 19) u] (getItem (.ref l) (.int (y.fmod 19) u)) := by with_unfolding_all rfl) :
    wpAny (model prog w) A (subscriptTail value slice (.ref l) (.int (y.fmod 19) u)) Q E s := by
  have hl : s.heap.IsList l ([.int 15 t0, .int 4 t1, .int 23 t2, .int 12 t3, .int 1 t4, .int 20 t5, .int 9 t6, .int 28 t7, .int 17 t8, .int 6 t9, .int 25 t10, .int 14 t11, .int 3 t12, .int 22 t13, .int 11 t14, .int 0 t15, .int 19 t16, .int 8 t17, .int 27 t18] : List Value).toArray := ⟨_, (N _ hm).1, rfl, n, rfl⟩
  have e := fmod_pos y (show (0 : Int) ≤ 19 by decide)
  obtain ⟨t, ht⟩ := moon_at (t0 := t0) (t1 := t1) (t2 := t2) (t3 := t3) (t4 := t4) (t5 := t5) (t6 := t6) (t7 := t7) (t8 := t8) (t9 := t9) (t10 := t10) (t11 := t11) (t12 := t12) (t13 := t13) (t14 := t14) (t15 := t15) (t16 := t16) (t17 := t17) (t18 := t18) (y.fmod 19).toNat (by omega)
  have em : (19 * (((y.fmod 19).toNat : Nat) : Int) + 15) % 30 = moon y := by
    unfold moon
    omega
  rw [em] at ht
  exact tail_any hl.typeIs slot_list_getitem.lookup (wpAny_getItem_list hl (by omega) (by omega) (by simpa using ht) (h t)) hs
theorem old_b (a : Int) : -3000000000 ≤ a.fmod (2 * 1000000000) - 1000000000 ∧ a.fmod (2 * 1000000000) - 1000000000 ≤ 3000000000 := by
  rw [fmod_pos a (by decide)]
  omega
theorem fst_b (a : Int) : -3000000000 ≤ 19 * a.fmod 100000000 ∧ 19 * a.fmod 100000000 ≤ 3000000000 := by
  rw [fmod_pos a (by decide)]
  omega
theorem lat_b (a b : Int) : -3000000000 ≤ 19 * a.fmod 100000000 + 1 + b.fmod 18 ∧ 19 * a.fmod 100000000 + 1 + b.fmod 18 ≤ 3000000000 := by
  rw [fmod_pos a (by decide), fmod_pos b (by decide)]
  omega
theorem fst_19 (a : Int) : (19 * a.fmod 100000000) % 19 = 0 := by omega
theorem lat_19 (a b : Int) : (19 * a.fmod 100000000 + 1 + b.fmod 18) % 19 ≠ 0 := by
  rw [fmod_pos b (by decide)]
  omega
theorem jb {p q r : Prop} (h : p ∧ q) (k : r) : p ∧ q ∧ r := ⟨h.1, h.2, k⟩
theorem pow9 : (10 : Int) ^ (9 : Int).toNat = 1000000000 := by decide
theorem pow8 : (10 : Int) ^ (8 : Int).toNat = 100000000 := by decide
theorem jul15 {y : Int} (h : y % 19 = 0) : (15 : Int) = moon y := by unfold moon; rw [h]; rfl
theorem jul16 {y : Int} (h : y % 19 = 0) : (16 : Int) = moon y + (if y % 19 = 0 then 1 else 0) := by rw [if_pos h, ← jul15 h]; rfl
theorem julL {y : Int} (h : y % 19 ≠ 0) : moon y = moon y + (if y % 19 = 0 then 1 else 0) := by rw [if_neg h, Int.add_zero]
theorem co_pre {f : Addr} {pre pre' : Prop} {vs : List Value} {R : Heap → Addr → (Str → Option Value) → List (Addr × Obj) → Shared → (Value → Shared → Prop) → Prop} (h : Co f pre vs R) (hp : pre' → pre) : Co f pre' vs R :=
  fun a0 a1 a2 a3 a4 a5 a6 a7 a8 a9 a10 a11 a12 a13 a14 a15 a16 a17 a18 a19 a20 a21 a22 a23 a24 a25 a26 a27 p => h a0 a1 a2 a3 a4 a5 a6 a7 a8 a9 a10 a11 a12 a13 a14 a15 a16 a17 a18 a19 a20 a21 a22 a23 a24 a25 a26 a27 (hp p)
theorem jc_m (y : Int) (t : Tok) : Co 130 (-3000000000 ≤ y ∧ y ≤ 3000000000) [.int y t] (RT y (sM (oM y) (moon y)) (sD (oM y) (moon y))) := co_pre (julian_c y (moon y) t) fun h => jb h rfl
theorem jc_15 (y : Int) (t : Tok) : Co 130 ((-3000000000 ≤ y ∧ y ≤ 3000000000) ∧ y % 19 = 0) [.int y t] (RT y (sM (oM y) 15) (sD (oM y) 15)) := co_pre (julian_c y 15 t) fun h => jb h.1 (jul15 h.2)
theorem jo_m (y : Int) (t u : Tok) : Co 130 (-3000000000 ≤ y ∧ y ≤ 3000000000) [.int y t, .str (Str.ofString "other") u] (RT y (sM (oM y) (moon y)) (sD (oM y) (moon y))) := co_pre (julian_o y (moon y) t u) fun h => jb h rfl
theorem je_m (y : Int) (t u : Tok) : Co 130 ((-3000000000 ≤ y ∧ y ≤ 3000000000) ∧ y % 19 ≠ 0) [.int y t, .str (Str.ofString "eastern") u] (RT y (sM (oM y) (moon y)) (sD (oM y) (moon y))) := co_pre (julian_e y (moon y) t u) fun h => jb h.1 (julL h.2)
theorem je_16 (y : Int) (t u : Tok) : Co 130 ((-3000000000 ≤ y ∧ y ≤ 3000000000) ∧ y % 19 = 0) [.int y t, .str (Str.ofString "eastern") u] (RT y (sM (oM y) 16) (sD (oM y) 16)) := co_pre (julian_e y 16 t u) fun h => jb h.1 (jul16 h.2)
local macro_rules | `(tactic| walk_at "call ref") => `(tactic| (k_here; (with_reducible show wpAny _ _ (call (Value.ref 158) [Value.int _ _]) _ _ _); k_dflt (refine' march_c _ _ _ _ _ _ _ _ _ _ _ _ _ _ _ _ _ _ _ _ _ _ _ _ ?k1 ?k2 ?k3 ?k4 ?k5 ?kK ?kp ?kd ?ku ?_; (case k1 => k_asm); (case k2 => k_asm); (case k3 => k_asm); (case k4 => k_asm); (case k5 => k_asm); (case kK => first | exact rfl | assumption); (case kp => omega); (case kd => ktr_room); (case ku => ktr_units); intro x9 t9 h9 tk9 e9 F9 N9; subst e9; (try dsimp only); (try k_fold); walk_say "BY march_c")))
local macro_rules | `(tactic| walk_at "call ref") => `(tactic| (k_here; (with_reducible show wpAny _ _ (call (Value.ref 165) [Value.int _ _]) _ _ _); k_dflt (refine' oldmarch_c _ _ _ _ _ _ _ _ _ _ _ _ _ _ _ _ _ _ _ _ _ _ _ _ ?k1 ?k2 ?k3 ?k4 ?k5 ?kK ?kp ?kd ?ku ?_; (case k1 => k_asm); (case k2 => k_asm); (case k3 => k_asm); (case k4 => k_asm); (case k5 => k_asm); (case kK => first | exact rfl | assumption); (case kp => first | exact old_b _ | exact fst_b _ | exact lat_b _ _); (case kd => ktr_room); (case ku => ktr_units); intro x9 t9 h9 tk9 e9 F9 N9; subst e9; (try dsimp only); (try k_fold); walk_say "BY oldmarch_c")))
local macro_rules | `(tactic| walk_at "call ref") => `(tactic| (k_here; (with_reducible show wpAny _ _ (call (Value.ref 172) [Value.int _ _]) _ _ _); k_dflt (refine' age_c _ _ _ _ _ _ _ _ _ _ _ _ _ _ _ _ _ _ _ _ _ _ _ _ ?k1 ?k2 ?k3 ?k4 ?k5 ?kK ?kp ?kd ?ku ?_; (case k1 => k_asm); (case k2 => k_asm); (case k3 => k_asm); (case k4 => k_asm); (case k5 => k_asm); (case kK => first | exact rfl | assumption); (case kp => omega); (case kd => ktr_room); (case ku => ktr_units); intro x9 t9 h9 tk9 e9 F9 N9; subst e9; (try dsimp only); (try k_fold); walk_say "BY age_c")))
local macro_rules | `(tactic| walk_at "call ref") => `(tactic| (k_here; (with_reducible show wpAny _ _ (call (Value.ref 122) [Value.int _ _]) _ _ _); k_dflt (refine' western_c _ _ _ _ _ _ _ _ _ _ _ _ _ _ _ _ _ _ _ _ _ _ _ _ ?k1 ?k2 ?k3 ?k4 ?k5 ?kK ?kp ?kd ?ku ?_; (case k1 => k_asm); (case k2 => k_asm); (case k3 => k_asm); (case k4 => k_asm); (case k5 => k_asm); (case kK => first | exact rfl | assumption); (case kp => omega); (case kd => ktr_room); (case ku => ktr_units); intro D9 x1 x2 x3 t1 t2 t3 c9 h9 tk9 e9 F9 N9; obtain ⟨e1, e2, e3⟩ := e9; subst e1; subst e2; subst e3; (try dsimp only [Tup] at N9); (try dsimp only); (try k_fold); walk_say "BY western_c")))
local macro_rules | `(tactic| walk_at "call ref") => `(tactic| (k_here; (with_reducible show wpAny _ _ (call (Value.ref 179) [Value.int _ _, Value.int _ _, Value.int _ _]) _ _ _); k_dflt (refine' sunday_c _ _ _ _ _ _ _ _ _ _ _ _ _ _ _ _ _ _ _ _ _ _ _ _ _ _ _ _ ?k1 ?k2 ?k3 ?k4 ?k5 ?kK ?kp ?kd ?ku ?_; (case k1 => k_asm); (case k2 => k_asm); (case k3 => k_asm); (case k4 => k_asm); (case k5 => k_asm); (case kK => first | exact rfl | assumption); (case kp => first | exact sunW (by omega) | exact sunO (by first | exact old_b _ | exact fst_b _ | exact lat_b _ _) (by first | exact moon_b _ | decide)); (case kd => ktr_room); (case ku => ktr_units); intro D9 x1 x2 x3 t1 t2 t3 c9 h9 tk9 e9 F9 N9; obtain ⟨e1, e2, e3⟩ := e9; subst e1; subst e2; subst e3; (try dsimp only [Tup] at N9); (try dsimp only); (try k_fold); walk_say "BY sunday_c")))
local macro_rules | `(tactic| walk_at "call ref") => `(tactic| (k_here; (with_reducible show wpAny _ _ (call (Value.ref 130) [Value.int _ _]) _ _ _); k_dflt (refine' jc_m _ _ _ _ _ _ _ _ _ _ _ _ _ _ _ _ _ _ _ _ _ _ _ _ ?k1 ?k2 ?k3 ?k4 ?k5 ?kK ?kp ?kd ?ku ?_; (case k1 => k_asm); (case k2 => k_asm); (case k3 => k_asm); (case k4 => k_asm); (case k5 => k_asm); (case kK => first | exact rfl | assumption); (case kp => first | exact old_b _ | exact fst_b _ | exact lat_b _ _); (case kd => ktr_room); (case ku => ktr_units); intro D9 x1 x2 x3 t1 t2 t3 c9 h9 tk9 e9 F9 N9; obtain ⟨e1, e2, e3⟩ := e9; subst e1; subst e2; subst e3; (try dsimp only [Tup] at N9); (try dsimp only); (try k_fold); walk_say "BY jc_m")))
local macro_rules | `(tactic| walk_at "call ref") => `(tactic| (k_here; (with_reducible show wpAny _ _ (call (Value.ref 130) [Value.int _ _]) _ _ _); k_dflt (refine' jc_15 _ _ _ _ _ _ _ _ _ _ _ _ _ _ _ _ _ _ _ _ _ _ _ _ ?k1 ?k2 ?k3 ?k4 ?k5 ?kK ?kp ?kd ?ku ?_; (case k1 => k_asm); (case k2 => k_asm); (case k3 => k_asm); (case k4 => k_asm); (case k5 => k_asm); (case kK => first | exact rfl | assumption); (case kp => exact ⟨fst_b _, fst_19 _⟩); (case kd => ktr_room); (case ku => ktr_units); intro D9 x1 x2 x3 t1 t2 t3 c9 h9 tk9 e9 F9 N9; obtain ⟨e1, e2, e3⟩ := e9; subst e1; subst e2; subst e3; (try dsimp only [Tup] at N9); (try dsimp only); (try k_fold); walk_say "BY jc_15")))
local macro_rules | `(tactic| walk_at "call ref") => `(tactic| (k_here; (with_reducible show wpAny _ _ (call (Value.ref 130) [Value.int _ _, Value.str _ _]) _ _ _); k_dflt (refine' jo_m _ _ _ _ _ _ _ _ _ _ _ _ _ _ _ _ _ _ _ _ _ _ _ _ _ ?k1 ?k2 ?k3 ?k4 ?k5 ?kK ?kp ?kd ?ku ?_; (case k1 => k_asm); (case k2 => k_asm); (case k3 => k_asm); (case k4 => k_asm); (case k5 => k_asm); (case kK => first | exact rfl | assumption); (case kp => first | exact old_b _ | exact fst_b _ | exact lat_b _ _); (case kd => ktr_room); (case ku => ktr_units); intro D9 x1 x2 x3 t1 t2 t3 c9 h9 tk9 e9 F9 N9; obtain ⟨e1, e2, e3⟩ := e9; subst e1; subst e2; subst e3; (try dsimp only [Tup] at N9); (try dsimp only); (try k_fold); walk_say "BY jo_m")))
local macro_rules | `(tactic| walk_at "call ref") => `(tactic| (k_here; (with_reducible show wpAny _ _ (call (Value.ref 130) [Value.int _ _, Value.str _ _]) _ _ _); k_dflt (refine' je_m _ _ _ _ _ _ _ _ _ _ _ _ _ _ _ _ _ _ _ _ _ _ _ _ _ ?k1 ?k2 ?k3 ?k4 ?k5 ?kK ?kp ?kd ?ku ?_; (case k1 => k_asm); (case k2 => k_asm); (case k3 => k_asm); (case k4 => k_asm); (case k5 => k_asm); (case kK => first | exact rfl | assumption); (case kp => exact ⟨lat_b _ _, lat_19 _ _⟩); (case kd => ktr_room); (case ku => ktr_units); intro D9 x1 x2 x3 t1 t2 t3 c9 h9 tk9 e9 F9 N9; obtain ⟨e1, e2, e3⟩ := e9; subst e1; subst e2; subst e3; (try dsimp only [Tup] at N9); (try dsimp only); (try k_fold); walk_say "BY je_m")))
local macro_rules | `(tactic| walk_at "call ref") => `(tactic| (k_here; (with_reducible show wpAny _ _ (call (Value.ref 130) [Value.int _ _, Value.str _ _]) _ _ _); k_dflt (refine' je_16 _ _ _ _ _ _ _ _ _ _ _ _ _ _ _ _ _ _ _ _ _ _ _ _ _ ?k1 ?k2 ?k3 ?k4 ?k5 ?kK ?kp ?kd ?ku ?_; (case k1 => k_asm); (case k2 => k_asm); (case k3 => k_asm); (case k4 => k_asm); (case k5 => k_asm); (case kK => first | exact rfl | assumption); (case kp => exact ⟨fst_b _, fst_19 _⟩); (case kd => ktr_room); (case ku => ktr_units); intro D9 x1 x2 x3 t1 t2 t3 c9 h9 tk9 e9 F9 N9; obtain ⟨e1, e2, e3⟩ := e9; subst e1; subst e2; subst e3; (try dsimp only [Tup] at N9); (try dsimp only); (try k_fold); walk_say "BY je_16")))
local macro_rules | `(tactic| walk_at "pyIter ref") => `(tactic| (k_here; (with_reducible show wpAny _ _ (pyIter (Value.ref _)) (fun it s₂ => LoopAtV _ _ _ _ _ _ _ _ _ it s₂) _ _); (rename Fr _ _ _ _ => lF'); (rename News _ _ _ _ => lN'); (rename IsRange _ _ _ _ _ _ _ _ => rgX); (with_unfolding_all refine' kst_range (σ := Unit) (n := 19) (fun _ => _) (fun _ => []) (fun _ => True) [Str.ofString "year"] (fun _ _ => True) () (by rfl) rgX (by decide) (by rfl) lF' lN' True.intro (fun _ h => nomatch h) True.intro ?_ ?_); (all_goals (try clear lF' lN')); (intro c9 pre9 k9 t9 u9 h9 tk9 own9 ek9 lt9 off9 f9 p9 F9 N9; (have kMark : KstMark := kstMark); (try dsimp only [kstB] at F9); (try dsimp only at N9); (try simp only [List.nil_append, List.cons_append, List.append_nil] at N9); (try dsimp only at off9); (try simp only [List.map_cons, List.map_nil] at off9); (try k_fold)); rotate_left; (intro c9 u9 h9 tk9 f9 p9 F9 N9; (have kMark : KstMark := kstMark); (try dsimp only [kstB] at F9); (try dsimp only at N9); (try simp only [List.nil_append, List.cons_append, List.append_nil] at N9); (try k_fold)); rotate_left; walk_say "THE LOOP"))
local macro_rules | `(tactic| walk_at "subscriptTail") => `(tactic| (k_here; (with_reducible show wpAny _ _ (subscriptTail _ _ (Value.ref _) (Value.int (Int.fmod _ 19) _)) _ _ _); k_dflt (refine' moon_item ?k1 ?k2 ?_; (case k1 => k_asm); (case k2 => k_mem); k_whole; intro t9; (try k_fold); walk_say "BY moon")))
local macro_rules | `(tactic| walk_at "eval Call") => `(tactic| (k_here; (with_reducible show wpAny _ _ (eval (Expr.Call (Expr.Name (Str.ofString "_law_old_march") _) _ _ _) _) _ _ _); k_dflt (refine Call_ ?_)))
local macro_rules | `(tactic| walk_at "binaryOp Pow int int") => `(tactic| (k_here; (with_reducible refine pow_int_small ?kb1 ?kb2 ?kb3 ?_); (case kb1 => l_bnd); (case kb2 => l_bnd); (case kb3 => decide); simp only [pow9, pow8]))
local macro_rules | `(tactic| walk_at "exec If") => `(tactic| (k_here; (with_reducible show wpAny _ _ (exec (Stmt.If _ [Stmt.Assign _ _ _] [Stmt.If _ _ _ _] _) _) _ _ _); (rename Fr _ _ _ _ => lF'); (rename News _ _ _ _ => lN'); (refine if_join (Str.ofString "start") 0 1564 lF' lN' ?_ ?_); rotate_left; clear lF' lN'; intro v9 t9 h9 tk9 hv1 hv2 F9 N9; (try dsimp only); (try k_fold); rotate_left; (try k_fold); walk_say "JOINED"))
local macro_rules | `(tactic| walk_at "JEnd") => `(tactic| first | exact JEnd.put (by assumption) (by assumption) (by first | omega | (k_fmods; omega)) (by first | omega | (k_fmods; omega)) | exact JEnd.stay (by rfl) (by assumption) (by assumption) (by first | omega | (k_fmods; omega)) (by first | omega | (k_fmods; omega)))

set_option maxRecDepth 100000 in
set_option maxHeartbeats 20000000 in
theorem walk_law : PySem.Challenge.rw_bf6007_01.Holds := hd (by
  k_with_none
  w_top off
  k_go0
  (all_goals try k_fold)
  k_steps
  (all_goals (try k_data))
  all_goals w_report)
end

end Mine
theorem PySem.Challenge.cw_bf6007_01_holds : PySem.Challenge.rw_bf6007_01.Holds := by
  exact Mine.walk_law
